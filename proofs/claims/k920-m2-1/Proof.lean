import JvmDerived
import JvmDerived.Pilot.@@N@@Statement
import JvmDerived.Pilot.@@N@@Code
set_option linter.unusedVariables false
set_option linter.unusedSimpArgs false
namespace Jvm.RoadKit
open Sem ClassFile Op Lib Jvm.Stand Jvm.Free Jvm.LawKit
section New
variable {p : Program} {l : Launch} {e : Env} {R : Room} {s : State} {m : MethodId} {args : Array Value} {below : List Frame} {meth : Method} {c : Code} {T : State} {locs : List Loc} {cells slots : Nat}
theorem retI (X : Stand p l e R s m args below meth c T locs cells slots) (hx : p.tables.exec = Jvm.exec) {pc : Nat} {Ls : Array Slot} {z : Int32} {rest : List Value} (hret : meth.sig.returnType = some .int) (hd : decode c.code pc = .ok (.ireturn, 1)) {fs : List Frame}
    (hl : ∀ (f : JFrame) (acts : List Action), f.method = m → f.locked = none → f.entered = [] → (doReturn e (T.setTop f) acts (some (.int z))).1 = T.setFrames fs) : Steps p.tables e below (T.setTop (mkF m pc Ls (.int z :: rest))) (T.setFrames fs) := by
  have hm' : T.vm.method? m = some meth := X.method'
  have hn : narrow .int (.int z) = .int z := rfl
  show Steps p.tables e below (T.setTop { method := m, pc := pc, locals := Ls, stack := _ :: rest, locked := none }) _
  jvm_step X.here [X.here.top, hx, hd, hm', hret, hn]
  first | (intro acts; rw [hl _ acts rfl rfl rfl]) | rw [hl _ _ rfl rfl rfl]
  exact Steps.refl _
end New
end Jvm.RoadKit
namespace Jvm.Pilot.@@N@@
open Jvm Jvm.ClassFile Sem Op Lib Jvm.Free Jvm.Stand Jvm.LawKit Jvm.RoadKit Bundle Jvm.Pilot.@@N@@.Jvm.D
def own_in4 (j : Int32) : Prop := j = 0 ∨ j = 1 ∨ j = 2 ∨ j = 3
instance (j : Int32) : Decidable (own_in4 j) := inferInstanceAs (Decidable (_ ∨ _))
theorem own_and3 (p : Int32) : own_in4 (p &&& (3 : Int32)) := by
  have h1 : (p &&& (3 : Int32)).toBitVec.toNat = p.toBitVec.toNat % 4 := by
    show (p.toBitVec &&& (3 : Int32).toBitVec).toNat = _
    rw [BitVec.toNat_and, show (3 : Int32).toBitVec.toNat = 2 ^ 2 - 1 from by decide, Nat.and_two_pow_sub_one_eq_mod]
  have h2 : (p &&& (3 : Int32)).toInt = (p.toBitVec.toNat % 4 : Nat) := by
    show (p &&& (3 : Int32)).toBitVec.toInt = _
    rw [BitVec.toInt_eq_toNat_cond, h1, if_pos (by omega)]
  have h3 : p.toBitVec.toNat % 4 < 4 := Nat.mod_lt _ (by decide)
  unfold own_in4
  simp only [← Int32.toInt_inj, h2, show (0 : Int32).toInt = 0 from by decide, show (1 : Int32).toInt = 1 from by decide, show (2 : Int32).toInt = 2 from by decide, show (3 : Int32).toInt = 3 from by decide]
  omega
def own_in9 (j : Int32) : Prop := j = 0 ∨ j = 1 ∨ j = 2 ∨ j = 3 ∨ j = 4 ∨ j = 5 ∨ j = 6 ∨ j = 7 ∨ j = 8
instance (j : Int32) : Decidable (own_in9 j) := inferInstanceAs (Decidable (_ ∨ _))
theorem own_j0 {p : Int32} (h : own_in4 p) : own_in9 p := by rcases h with rfl | rfl | rfl | rfl <;> decide
theorem own_j1 {p : Int32} (h : own_in4 p) : own_in9 (p + (1 : Int32)) := by rcases h with rfl | rfl | rfl | rfl <;> decide
theorem own_j2 {p : Int32} (h : own_in4 p) : own_in9 ((p + (1 : Int32)) + (1 : Int32)) := by rcases h with rfl | rfl | rfl | rfl <;> decide
theorem own_j3 {p : Int32} (h : own_in4 p) : own_in9 (((p + (1 : Int32)) + (1 : Int32)) + (1 : Int32)) := by rcases h with rfl | rfl | rfl | rfl <;> decide
theorem own_j4 {p : Int32} (h : own_in4 p) : own_in9 ((((p + (1 : Int32)) + (1 : Int32)) + (1 : Int32)) + (1 : Int32)) := by rcases h with rfl | rfl | rfl | rfl <;> decide
theorem own_b9 {j : Int32} (h : own_in9 j) : ¬ j < 0 ∧ j < 9 := by rcases h with rfl | rfl | rfl | rfl | rfl | rfl | rfl | rfl | rfl <;> decide
theorem own_n9 {j : Int32} (h : own_in9 j) {l : List Value} (hl : l.length = 9 := by rfl) : j.toNatClampNeg < l.length := by
  rw [hl]
  rcases h with rfl | rfl | rfl | rfl | rfl | rfl | rfl | rfl | rfl <;> decide
theorem own_set9 {j : Int32} (h : own_in9 j) {c0 c1 c2 c3 c4 c5 c6 c7 c8 v : Int32} : ([.int c0, .int c1, .int c2, .int c3, .int c4, .int c5, .int c6, .int c7, .int c8] : List Value).set j.toNatClampNeg (.int v) = [.int (if j = 0 then v else c0), .int (if j = 1 then v else c1), .int (if j = 2 then v else c2), .int (if j = 3 then v else c3), .int (if j = 4 then v else c4), .int (if j = 5 then v else c5), .int (if j = 6 then v else c6), .int (if j = 7 then v else c7), .int (if j = 8 then v else c8)] := by rcases h with rfl | rfl | rfl | rfl | rfl | rfl | rfl | rfl | rfl <;> rfl
def f1_0 (p2 : Int32) (p3 : Int32) (c0 : Int32) (c1 : Int32) (c2 : Int32) (c3 : Int32) (c4 : Int32) (c5 : Int32) (c6 : Int32) (c7 : Int32) (c8 : Int32) : Int32 := (if p2 = (0 : Int32) then ((p3 &&& (127 : Int32)) ||| (128 : Int32)).toInt8.toInt32.toInt8.toInt32 else c0)
def f1_1 (p2 : Int32) (p3 : Int32) (c0 : Int32) (c1 : Int32) (c2 : Int32) (c3 : Int32) (c4 : Int32) (c5 : Int32) (c6 : Int32) (c7 : Int32) (c8 : Int32) : Int32 := (if p2 = (1 : Int32) then ((p3 &&& (127 : Int32)) ||| (128 : Int32)).toInt8.toInt32.toInt8.toInt32 else c1)
def f1_2 (p2 : Int32) (p3 : Int32) (c0 : Int32) (c1 : Int32) (c2 : Int32) (c3 : Int32) (c4 : Int32) (c5 : Int32) (c6 : Int32) (c7 : Int32) (c8 : Int32) : Int32 := (if p2 = (2 : Int32) then ((p3 &&& (127 : Int32)) ||| (128 : Int32)).toInt8.toInt32.toInt8.toInt32 else c2)
def f1_3 (p2 : Int32) (p3 : Int32) (c0 : Int32) (c1 : Int32) (c2 : Int32) (c3 : Int32) (c4 : Int32) (c5 : Int32) (c6 : Int32) (c7 : Int32) (c8 : Int32) : Int32 := (if p2 = (3 : Int32) then ((p3 &&& (127 : Int32)) ||| (128 : Int32)).toInt8.toInt32.toInt8.toInt32 else c3)
def f1_4 (p2 : Int32) (p3 : Int32) (c0 : Int32) (c1 : Int32) (c2 : Int32) (c3 : Int32) (c4 : Int32) (c5 : Int32) (c6 : Int32) (c7 : Int32) (c8 : Int32) : Int32 := (if p2 = (4 : Int32) then ((p3 &&& (127 : Int32)) ||| (128 : Int32)).toInt8.toInt32.toInt8.toInt32 else c4)
def f1_5 (p2 : Int32) (p3 : Int32) (c0 : Int32) (c1 : Int32) (c2 : Int32) (c3 : Int32) (c4 : Int32) (c5 : Int32) (c6 : Int32) (c7 : Int32) (c8 : Int32) : Int32 := (if p2 = (5 : Int32) then ((p3 &&& (127 : Int32)) ||| (128 : Int32)).toInt8.toInt32.toInt8.toInt32 else c5)
def f1_6 (p2 : Int32) (p3 : Int32) (c0 : Int32) (c1 : Int32) (c2 : Int32) (c3 : Int32) (c4 : Int32) (c5 : Int32) (c6 : Int32) (c7 : Int32) (c8 : Int32) : Int32 := (if p2 = (6 : Int32) then ((p3 &&& (127 : Int32)) ||| (128 : Int32)).toInt8.toInt32.toInt8.toInt32 else c6)
def f1_7 (p2 : Int32) (p3 : Int32) (c0 : Int32) (c1 : Int32) (c2 : Int32) (c3 : Int32) (c4 : Int32) (c5 : Int32) (c6 : Int32) (c7 : Int32) (c8 : Int32) : Int32 := (if p2 = (7 : Int32) then ((p3 &&& (127 : Int32)) ||| (128 : Int32)).toInt8.toInt32.toInt8.toInt32 else c7)
def f1_8 (p2 : Int32) (p3 : Int32) (c0 : Int32) (c1 : Int32) (c2 : Int32) (c3 : Int32) (c4 : Int32) (c5 : Int32) (c6 : Int32) (c7 : Int32) (c8 : Int32) : Int32 := (if p2 = (8 : Int32) then ((p3 &&& (127 : Int32)) ||| (128 : Int32)).toInt8.toInt32.toInt8.toInt32 else c8)
def f1_9 (p2 : Int32) (p3 : Int32) (c0 : Int32) (c1 : Int32) (c2 : Int32) (c3 : Int32) (c4 : Int32) (c5 : Int32) (c6 : Int32) (c7 : Int32) (c8 : Int32) : Int32 := (if (p2 + (1 : Int32)) = (0 : Int32) then (XT.ushr p3 (7 : Int32)).toInt8.toInt32.toInt8.toInt32 else (f1_0 p2 p3 c0 c1 c2 c3 c4 c5 c6 c7 c8))
def f1_10 (p2 : Int32) (p3 : Int32) (c0 : Int32) (c1 : Int32) (c2 : Int32) (c3 : Int32) (c4 : Int32) (c5 : Int32) (c6 : Int32) (c7 : Int32) (c8 : Int32) : Int32 := (if (p2 + (1 : Int32)) = (1 : Int32) then (XT.ushr p3 (7 : Int32)).toInt8.toInt32.toInt8.toInt32 else (f1_1 p2 p3 c0 c1 c2 c3 c4 c5 c6 c7 c8))
def f1_11 (p2 : Int32) (p3 : Int32) (c0 : Int32) (c1 : Int32) (c2 : Int32) (c3 : Int32) (c4 : Int32) (c5 : Int32) (c6 : Int32) (c7 : Int32) (c8 : Int32) : Int32 := (if (p2 + (1 : Int32)) = (2 : Int32) then (XT.ushr p3 (7 : Int32)).toInt8.toInt32.toInt8.toInt32 else (f1_2 p2 p3 c0 c1 c2 c3 c4 c5 c6 c7 c8))
def f1_12 (p2 : Int32) (p3 : Int32) (c0 : Int32) (c1 : Int32) (c2 : Int32) (c3 : Int32) (c4 : Int32) (c5 : Int32) (c6 : Int32) (c7 : Int32) (c8 : Int32) : Int32 := (if (p2 + (1 : Int32)) = (3 : Int32) then (XT.ushr p3 (7 : Int32)).toInt8.toInt32.toInt8.toInt32 else (f1_3 p2 p3 c0 c1 c2 c3 c4 c5 c6 c7 c8))
def f1_13 (p2 : Int32) (p3 : Int32) (c0 : Int32) (c1 : Int32) (c2 : Int32) (c3 : Int32) (c4 : Int32) (c5 : Int32) (c6 : Int32) (c7 : Int32) (c8 : Int32) : Int32 := (if (p2 + (1 : Int32)) = (4 : Int32) then (XT.ushr p3 (7 : Int32)).toInt8.toInt32.toInt8.toInt32 else (f1_4 p2 p3 c0 c1 c2 c3 c4 c5 c6 c7 c8))
def f1_14 (p2 : Int32) (p3 : Int32) (c0 : Int32) (c1 : Int32) (c2 : Int32) (c3 : Int32) (c4 : Int32) (c5 : Int32) (c6 : Int32) (c7 : Int32) (c8 : Int32) : Int32 := (if (p2 + (1 : Int32)) = (5 : Int32) then (XT.ushr p3 (7 : Int32)).toInt8.toInt32.toInt8.toInt32 else (f1_5 p2 p3 c0 c1 c2 c3 c4 c5 c6 c7 c8))
def f1_15 (p2 : Int32) (p3 : Int32) (c0 : Int32) (c1 : Int32) (c2 : Int32) (c3 : Int32) (c4 : Int32) (c5 : Int32) (c6 : Int32) (c7 : Int32) (c8 : Int32) : Int32 := (if (p2 + (1 : Int32)) = (6 : Int32) then (XT.ushr p3 (7 : Int32)).toInt8.toInt32.toInt8.toInt32 else (f1_6 p2 p3 c0 c1 c2 c3 c4 c5 c6 c7 c8))
def f1_16 (p2 : Int32) (p3 : Int32) (c0 : Int32) (c1 : Int32) (c2 : Int32) (c3 : Int32) (c4 : Int32) (c5 : Int32) (c6 : Int32) (c7 : Int32) (c8 : Int32) : Int32 := (if (p2 + (1 : Int32)) = (7 : Int32) then (XT.ushr p3 (7 : Int32)).toInt8.toInt32.toInt8.toInt32 else (f1_7 p2 p3 c0 c1 c2 c3 c4 c5 c6 c7 c8))
def f1_17 (p2 : Int32) (p3 : Int32) (c0 : Int32) (c1 : Int32) (c2 : Int32) (c3 : Int32) (c4 : Int32) (c5 : Int32) (c6 : Int32) (c7 : Int32) (c8 : Int32) : Int32 := (if (p2 + (1 : Int32)) = (8 : Int32) then (XT.ushr p3 (7 : Int32)).toInt8.toInt32.toInt8.toInt32 else (f1_8 p2 p3 c0 c1 c2 c3 c4 c5 c6 c7 c8))
def f1_18 (p2 : Int32) (p3 : Int32) (c0 : Int32) (c1 : Int32) (c2 : Int32) (c3 : Int32) (c4 : Int32) (c5 : Int32) (c6 : Int32) (c7 : Int32) (c8 : Int32) : Int32 := (((XT.ushr p3 (7 : Int32)) &&& (127 : Int32)) ||| (128 : Int32)).toInt8.toInt32.toInt8.toInt32
def f1_19 (p2 : Int32) (p3 : Int32) (c0 : Int32) (c1 : Int32) (c2 : Int32) (c3 : Int32) (c4 : Int32) (c5 : Int32) (c6 : Int32) (c7 : Int32) (c8 : Int32) : Int32 := (if (p2 + (1 : Int32)) = (0 : Int32) then (f1_18 p2 p3 c0 c1 c2 c3 c4 c5 c6 c7 c8) else (f1_0 p2 p3 c0 c1 c2 c3 c4 c5 c6 c7 c8))
def f1_20 (p2 : Int32) (p3 : Int32) (c0 : Int32) (c1 : Int32) (c2 : Int32) (c3 : Int32) (c4 : Int32) (c5 : Int32) (c6 : Int32) (c7 : Int32) (c8 : Int32) : Int32 := (if (p2 + (1 : Int32)) = (1 : Int32) then (f1_18 p2 p3 c0 c1 c2 c3 c4 c5 c6 c7 c8) else (f1_1 p2 p3 c0 c1 c2 c3 c4 c5 c6 c7 c8))
def f1_21 (p2 : Int32) (p3 : Int32) (c0 : Int32) (c1 : Int32) (c2 : Int32) (c3 : Int32) (c4 : Int32) (c5 : Int32) (c6 : Int32) (c7 : Int32) (c8 : Int32) : Int32 := (if (p2 + (1 : Int32)) = (2 : Int32) then (f1_18 p2 p3 c0 c1 c2 c3 c4 c5 c6 c7 c8) else (f1_2 p2 p3 c0 c1 c2 c3 c4 c5 c6 c7 c8))
def f1_22 (p2 : Int32) (p3 : Int32) (c0 : Int32) (c1 : Int32) (c2 : Int32) (c3 : Int32) (c4 : Int32) (c5 : Int32) (c6 : Int32) (c7 : Int32) (c8 : Int32) : Int32 := (if (p2 + (1 : Int32)) = (3 : Int32) then (f1_18 p2 p3 c0 c1 c2 c3 c4 c5 c6 c7 c8) else (f1_3 p2 p3 c0 c1 c2 c3 c4 c5 c6 c7 c8))
def f1_23 (p2 : Int32) (p3 : Int32) (c0 : Int32) (c1 : Int32) (c2 : Int32) (c3 : Int32) (c4 : Int32) (c5 : Int32) (c6 : Int32) (c7 : Int32) (c8 : Int32) : Int32 := (if (p2 + (1 : Int32)) = (4 : Int32) then (f1_18 p2 p3 c0 c1 c2 c3 c4 c5 c6 c7 c8) else (f1_4 p2 p3 c0 c1 c2 c3 c4 c5 c6 c7 c8))
def f1_24 (p2 : Int32) (p3 : Int32) (c0 : Int32) (c1 : Int32) (c2 : Int32) (c3 : Int32) (c4 : Int32) (c5 : Int32) (c6 : Int32) (c7 : Int32) (c8 : Int32) : Int32 := (if (p2 + (1 : Int32)) = (5 : Int32) then (f1_18 p2 p3 c0 c1 c2 c3 c4 c5 c6 c7 c8) else (f1_5 p2 p3 c0 c1 c2 c3 c4 c5 c6 c7 c8))
def f1_25 (p2 : Int32) (p3 : Int32) (c0 : Int32) (c1 : Int32) (c2 : Int32) (c3 : Int32) (c4 : Int32) (c5 : Int32) (c6 : Int32) (c7 : Int32) (c8 : Int32) : Int32 := (if (p2 + (1 : Int32)) = (6 : Int32) then (f1_18 p2 p3 c0 c1 c2 c3 c4 c5 c6 c7 c8) else (f1_6 p2 p3 c0 c1 c2 c3 c4 c5 c6 c7 c8))
def f1_26 (p2 : Int32) (p3 : Int32) (c0 : Int32) (c1 : Int32) (c2 : Int32) (c3 : Int32) (c4 : Int32) (c5 : Int32) (c6 : Int32) (c7 : Int32) (c8 : Int32) : Int32 := (if (p2 + (1 : Int32)) = (7 : Int32) then (f1_18 p2 p3 c0 c1 c2 c3 c4 c5 c6 c7 c8) else (f1_7 p2 p3 c0 c1 c2 c3 c4 c5 c6 c7 c8))
def f1_27 (p2 : Int32) (p3 : Int32) (c0 : Int32) (c1 : Int32) (c2 : Int32) (c3 : Int32) (c4 : Int32) (c5 : Int32) (c6 : Int32) (c7 : Int32) (c8 : Int32) : Int32 := (if (p2 + (1 : Int32)) = (8 : Int32) then (f1_18 p2 p3 c0 c1 c2 c3 c4 c5 c6 c7 c8) else (f1_8 p2 p3 c0 c1 c2 c3 c4 c5 c6 c7 c8))
def f1_28 (p2 : Int32) (p3 : Int32) (c0 : Int32) (c1 : Int32) (c2 : Int32) (c3 : Int32) (c4 : Int32) (c5 : Int32) (c6 : Int32) (c7 : Int32) (c8 : Int32) : Int32 := (if ((p2 + (1 : Int32)) + (1 : Int32)) = (0 : Int32) then (XT.ushr (XT.ushr p3 (7 : Int32)) (7 : Int32)).toInt8.toInt32.toInt8.toInt32 else (f1_19 p2 p3 c0 c1 c2 c3 c4 c5 c6 c7 c8))
def f1_29 (p2 : Int32) (p3 : Int32) (c0 : Int32) (c1 : Int32) (c2 : Int32) (c3 : Int32) (c4 : Int32) (c5 : Int32) (c6 : Int32) (c7 : Int32) (c8 : Int32) : Int32 := (if ((p2 + (1 : Int32)) + (1 : Int32)) = (1 : Int32) then (XT.ushr (XT.ushr p3 (7 : Int32)) (7 : Int32)).toInt8.toInt32.toInt8.toInt32 else (f1_20 p2 p3 c0 c1 c2 c3 c4 c5 c6 c7 c8))
def f1_30 (p2 : Int32) (p3 : Int32) (c0 : Int32) (c1 : Int32) (c2 : Int32) (c3 : Int32) (c4 : Int32) (c5 : Int32) (c6 : Int32) (c7 : Int32) (c8 : Int32) : Int32 := (if ((p2 + (1 : Int32)) + (1 : Int32)) = (2 : Int32) then (XT.ushr (XT.ushr p3 (7 : Int32)) (7 : Int32)).toInt8.toInt32.toInt8.toInt32 else (f1_21 p2 p3 c0 c1 c2 c3 c4 c5 c6 c7 c8))
def f1_31 (p2 : Int32) (p3 : Int32) (c0 : Int32) (c1 : Int32) (c2 : Int32) (c3 : Int32) (c4 : Int32) (c5 : Int32) (c6 : Int32) (c7 : Int32) (c8 : Int32) : Int32 := (if ((p2 + (1 : Int32)) + (1 : Int32)) = (3 : Int32) then (XT.ushr (XT.ushr p3 (7 : Int32)) (7 : Int32)).toInt8.toInt32.toInt8.toInt32 else (f1_22 p2 p3 c0 c1 c2 c3 c4 c5 c6 c7 c8))
def f1_32 (p2 : Int32) (p3 : Int32) (c0 : Int32) (c1 : Int32) (c2 : Int32) (c3 : Int32) (c4 : Int32) (c5 : Int32) (c6 : Int32) (c7 : Int32) (c8 : Int32) : Int32 := (if ((p2 + (1 : Int32)) + (1 : Int32)) = (4 : Int32) then (XT.ushr (XT.ushr p3 (7 : Int32)) (7 : Int32)).toInt8.toInt32.toInt8.toInt32 else (f1_23 p2 p3 c0 c1 c2 c3 c4 c5 c6 c7 c8))
def f1_33 (p2 : Int32) (p3 : Int32) (c0 : Int32) (c1 : Int32) (c2 : Int32) (c3 : Int32) (c4 : Int32) (c5 : Int32) (c6 : Int32) (c7 : Int32) (c8 : Int32) : Int32 := (if ((p2 + (1 : Int32)) + (1 : Int32)) = (5 : Int32) then (XT.ushr (XT.ushr p3 (7 : Int32)) (7 : Int32)).toInt8.toInt32.toInt8.toInt32 else (f1_24 p2 p3 c0 c1 c2 c3 c4 c5 c6 c7 c8))
def f1_34 (p2 : Int32) (p3 : Int32) (c0 : Int32) (c1 : Int32) (c2 : Int32) (c3 : Int32) (c4 : Int32) (c5 : Int32) (c6 : Int32) (c7 : Int32) (c8 : Int32) : Int32 := (if ((p2 + (1 : Int32)) + (1 : Int32)) = (6 : Int32) then (XT.ushr (XT.ushr p3 (7 : Int32)) (7 : Int32)).toInt8.toInt32.toInt8.toInt32 else (f1_25 p2 p3 c0 c1 c2 c3 c4 c5 c6 c7 c8))
def f1_35 (p2 : Int32) (p3 : Int32) (c0 : Int32) (c1 : Int32) (c2 : Int32) (c3 : Int32) (c4 : Int32) (c5 : Int32) (c6 : Int32) (c7 : Int32) (c8 : Int32) : Int32 := (if ((p2 + (1 : Int32)) + (1 : Int32)) = (7 : Int32) then (XT.ushr (XT.ushr p3 (7 : Int32)) (7 : Int32)).toInt8.toInt32.toInt8.toInt32 else (f1_26 p2 p3 c0 c1 c2 c3 c4 c5 c6 c7 c8))
def f1_36 (p2 : Int32) (p3 : Int32) (c0 : Int32) (c1 : Int32) (c2 : Int32) (c3 : Int32) (c4 : Int32) (c5 : Int32) (c6 : Int32) (c7 : Int32) (c8 : Int32) : Int32 := (if ((p2 + (1 : Int32)) + (1 : Int32)) = (8 : Int32) then (XT.ushr (XT.ushr p3 (7 : Int32)) (7 : Int32)).toInt8.toInt32.toInt8.toInt32 else (f1_27 p2 p3 c0 c1 c2 c3 c4 c5 c6 c7 c8))
def f1_37 (p2 : Int32) (p3 : Int32) (c0 : Int32) (c1 : Int32) (c2 : Int32) (c3 : Int32) (c4 : Int32) (c5 : Int32) (c6 : Int32) (c7 : Int32) (c8 : Int32) : Int32 := (((XT.ushr (XT.ushr p3 (7 : Int32)) (7 : Int32)) &&& (127 : Int32)) ||| (128 : Int32)).toInt8.toInt32
def f1_38 (p2 : Int32) (p3 : Int32) (c0 : Int32) (c1 : Int32) (c2 : Int32) (c3 : Int32) (c4 : Int32) (c5 : Int32) (c6 : Int32) (c7 : Int32) (c8 : Int32) : Int32 := (if ((p2 + (1 : Int32)) + (1 : Int32)) = (0 : Int32) then (f1_37 p2 p3 c0 c1 c2 c3 c4 c5 c6 c7 c8).toInt8.toInt32 else (f1_19 p2 p3 c0 c1 c2 c3 c4 c5 c6 c7 c8))
def f1_39 (p2 : Int32) (p3 : Int32) (c0 : Int32) (c1 : Int32) (c2 : Int32) (c3 : Int32) (c4 : Int32) (c5 : Int32) (c6 : Int32) (c7 : Int32) (c8 : Int32) : Int32 := (if ((p2 + (1 : Int32)) + (1 : Int32)) = (1 : Int32) then (f1_37 p2 p3 c0 c1 c2 c3 c4 c5 c6 c7 c8).toInt8.toInt32 else (f1_20 p2 p3 c0 c1 c2 c3 c4 c5 c6 c7 c8))
def f1_40 (p2 : Int32) (p3 : Int32) (c0 : Int32) (c1 : Int32) (c2 : Int32) (c3 : Int32) (c4 : Int32) (c5 : Int32) (c6 : Int32) (c7 : Int32) (c8 : Int32) : Int32 := (if ((p2 + (1 : Int32)) + (1 : Int32)) = (2 : Int32) then (f1_37 p2 p3 c0 c1 c2 c3 c4 c5 c6 c7 c8).toInt8.toInt32 else (f1_21 p2 p3 c0 c1 c2 c3 c4 c5 c6 c7 c8))
def f1_41 (p2 : Int32) (p3 : Int32) (c0 : Int32) (c1 : Int32) (c2 : Int32) (c3 : Int32) (c4 : Int32) (c5 : Int32) (c6 : Int32) (c7 : Int32) (c8 : Int32) : Int32 := (if ((p2 + (1 : Int32)) + (1 : Int32)) = (3 : Int32) then (f1_37 p2 p3 c0 c1 c2 c3 c4 c5 c6 c7 c8).toInt8.toInt32 else (f1_22 p2 p3 c0 c1 c2 c3 c4 c5 c6 c7 c8))
def f1_42 (p2 : Int32) (p3 : Int32) (c0 : Int32) (c1 : Int32) (c2 : Int32) (c3 : Int32) (c4 : Int32) (c5 : Int32) (c6 : Int32) (c7 : Int32) (c8 : Int32) : Int32 := (if ((p2 + (1 : Int32)) + (1 : Int32)) = (4 : Int32) then (f1_37 p2 p3 c0 c1 c2 c3 c4 c5 c6 c7 c8).toInt8.toInt32 else (f1_23 p2 p3 c0 c1 c2 c3 c4 c5 c6 c7 c8))
def f1_43 (p2 : Int32) (p3 : Int32) (c0 : Int32) (c1 : Int32) (c2 : Int32) (c3 : Int32) (c4 : Int32) (c5 : Int32) (c6 : Int32) (c7 : Int32) (c8 : Int32) : Int32 := (if ((p2 + (1 : Int32)) + (1 : Int32)) = (5 : Int32) then (f1_37 p2 p3 c0 c1 c2 c3 c4 c5 c6 c7 c8).toInt8.toInt32 else (f1_24 p2 p3 c0 c1 c2 c3 c4 c5 c6 c7 c8))
def f1_44 (p2 : Int32) (p3 : Int32) (c0 : Int32) (c1 : Int32) (c2 : Int32) (c3 : Int32) (c4 : Int32) (c5 : Int32) (c6 : Int32) (c7 : Int32) (c8 : Int32) : Int32 := (if ((p2 + (1 : Int32)) + (1 : Int32)) = (6 : Int32) then (f1_37 p2 p3 c0 c1 c2 c3 c4 c5 c6 c7 c8).toInt8.toInt32 else (f1_25 p2 p3 c0 c1 c2 c3 c4 c5 c6 c7 c8))
def f1_45 (p2 : Int32) (p3 : Int32) (c0 : Int32) (c1 : Int32) (c2 : Int32) (c3 : Int32) (c4 : Int32) (c5 : Int32) (c6 : Int32) (c7 : Int32) (c8 : Int32) : Int32 := (if ((p2 + (1 : Int32)) + (1 : Int32)) = (7 : Int32) then (f1_37 p2 p3 c0 c1 c2 c3 c4 c5 c6 c7 c8).toInt8.toInt32 else (f1_26 p2 p3 c0 c1 c2 c3 c4 c5 c6 c7 c8))
def f1_46 (p2 : Int32) (p3 : Int32) (c0 : Int32) (c1 : Int32) (c2 : Int32) (c3 : Int32) (c4 : Int32) (c5 : Int32) (c6 : Int32) (c7 : Int32) (c8 : Int32) : Int32 := (if ((p2 + (1 : Int32)) + (1 : Int32)) = (8 : Int32) then (f1_37 p2 p3 c0 c1 c2 c3 c4 c5 c6 c7 c8).toInt8.toInt32 else (f1_27 p2 p3 c0 c1 c2 c3 c4 c5 c6 c7 c8))
def f1_47 (p2 : Int32) (p3 : Int32) (c0 : Int32) (c1 : Int32) (c2 : Int32) (c3 : Int32) (c4 : Int32) (c5 : Int32) (c6 : Int32) (c7 : Int32) (c8 : Int32) : Int32 := (XT.ushr (XT.ushr (XT.ushr p3 (7 : Int32)) (7 : Int32)) (7 : Int32)).toInt8.toInt32.toInt8.toInt32
def f1_48 (p2 : Int32) (p3 : Int32) (c0 : Int32) (c1 : Int32) (c2 : Int32) (c3 : Int32) (c4 : Int32) (c5 : Int32) (c6 : Int32) (c7 : Int32) (c8 : Int32) : Int32 := (if (((p2 + (1 : Int32)) + (1 : Int32)) + (1 : Int32)) = (0 : Int32) then (f1_47 p2 p3 c0 c1 c2 c3 c4 c5 c6 c7 c8) else (f1_38 p2 p3 c0 c1 c2 c3 c4 c5 c6 c7 c8))
def f1_49 (p2 : Int32) (p3 : Int32) (c0 : Int32) (c1 : Int32) (c2 : Int32) (c3 : Int32) (c4 : Int32) (c5 : Int32) (c6 : Int32) (c7 : Int32) (c8 : Int32) : Int32 := (if (((p2 + (1 : Int32)) + (1 : Int32)) + (1 : Int32)) = (1 : Int32) then (f1_47 p2 p3 c0 c1 c2 c3 c4 c5 c6 c7 c8) else (f1_39 p2 p3 c0 c1 c2 c3 c4 c5 c6 c7 c8))
def f1_50 (p2 : Int32) (p3 : Int32) (c0 : Int32) (c1 : Int32) (c2 : Int32) (c3 : Int32) (c4 : Int32) (c5 : Int32) (c6 : Int32) (c7 : Int32) (c8 : Int32) : Int32 := (if (((p2 + (1 : Int32)) + (1 : Int32)) + (1 : Int32)) = (2 : Int32) then (f1_47 p2 p3 c0 c1 c2 c3 c4 c5 c6 c7 c8) else (f1_40 p2 p3 c0 c1 c2 c3 c4 c5 c6 c7 c8))
def f1_51 (p2 : Int32) (p3 : Int32) (c0 : Int32) (c1 : Int32) (c2 : Int32) (c3 : Int32) (c4 : Int32) (c5 : Int32) (c6 : Int32) (c7 : Int32) (c8 : Int32) : Int32 := (if (((p2 + (1 : Int32)) + (1 : Int32)) + (1 : Int32)) = (3 : Int32) then (f1_47 p2 p3 c0 c1 c2 c3 c4 c5 c6 c7 c8) else (f1_41 p2 p3 c0 c1 c2 c3 c4 c5 c6 c7 c8))
def f1_52 (p2 : Int32) (p3 : Int32) (c0 : Int32) (c1 : Int32) (c2 : Int32) (c3 : Int32) (c4 : Int32) (c5 : Int32) (c6 : Int32) (c7 : Int32) (c8 : Int32) : Int32 := (if (((p2 + (1 : Int32)) + (1 : Int32)) + (1 : Int32)) = (4 : Int32) then (f1_47 p2 p3 c0 c1 c2 c3 c4 c5 c6 c7 c8) else (f1_42 p2 p3 c0 c1 c2 c3 c4 c5 c6 c7 c8))
def f1_53 (p2 : Int32) (p3 : Int32) (c0 : Int32) (c1 : Int32) (c2 : Int32) (c3 : Int32) (c4 : Int32) (c5 : Int32) (c6 : Int32) (c7 : Int32) (c8 : Int32) : Int32 := (if (((p2 + (1 : Int32)) + (1 : Int32)) + (1 : Int32)) = (5 : Int32) then (f1_47 p2 p3 c0 c1 c2 c3 c4 c5 c6 c7 c8) else (f1_43 p2 p3 c0 c1 c2 c3 c4 c5 c6 c7 c8))
def f1_54 (p2 : Int32) (p3 : Int32) (c0 : Int32) (c1 : Int32) (c2 : Int32) (c3 : Int32) (c4 : Int32) (c5 : Int32) (c6 : Int32) (c7 : Int32) (c8 : Int32) : Int32 := (if (((p2 + (1 : Int32)) + (1 : Int32)) + (1 : Int32)) = (6 : Int32) then (f1_47 p2 p3 c0 c1 c2 c3 c4 c5 c6 c7 c8) else (f1_44 p2 p3 c0 c1 c2 c3 c4 c5 c6 c7 c8))
def f1_55 (p2 : Int32) (p3 : Int32) (c0 : Int32) (c1 : Int32) (c2 : Int32) (c3 : Int32) (c4 : Int32) (c5 : Int32) (c6 : Int32) (c7 : Int32) (c8 : Int32) : Int32 := (if (((p2 + (1 : Int32)) + (1 : Int32)) + (1 : Int32)) = (7 : Int32) then (f1_47 p2 p3 c0 c1 c2 c3 c4 c5 c6 c7 c8) else (f1_45 p2 p3 c0 c1 c2 c3 c4 c5 c6 c7 c8))
def f1_56 (p2 : Int32) (p3 : Int32) (c0 : Int32) (c1 : Int32) (c2 : Int32) (c3 : Int32) (c4 : Int32) (c5 : Int32) (c6 : Int32) (c7 : Int32) (c8 : Int32) : Int32 := (if (((p2 + (1 : Int32)) + (1 : Int32)) + (1 : Int32)) = (8 : Int32) then (f1_47 p2 p3 c0 c1 c2 c3 c4 c5 c6 c7 c8) else (f1_46 p2 p3 c0 c1 c2 c3 c4 c5 c6 c7 c8))
def f1_57 (p2 : Int32) (p3 : Int32) (c0 : Int32) (c1 : Int32) (c2 : Int32) (c3 : Int32) (c4 : Int32) (c5 : Int32) (c6 : Int32) (c7 : Int32) (c8 : Int32) : Int32 := (((XT.ushr (XT.ushr (XT.ushr p3 (7 : Int32)) (7 : Int32)) (7 : Int32)) &&& (127 : Int32)) ||| (128 : Int32))
def f1_58 (p2 : Int32) (p3 : Int32) (c0 : Int32) (c1 : Int32) (c2 : Int32) (c3 : Int32) (c4 : Int32) (c5 : Int32) (c6 : Int32) (c7 : Int32) (c8 : Int32) : Int32 := (if (((p2 + (1 : Int32)) + (1 : Int32)) + (1 : Int32)) = (0 : Int32) then (f1_57 p2 p3 c0 c1 c2 c3 c4 c5 c6 c7 c8).toInt8.toInt32.toInt8.toInt32 else (f1_38 p2 p3 c0 c1 c2 c3 c4 c5 c6 c7 c8))
def f1_59 (p2 : Int32) (p3 : Int32) (c0 : Int32) (c1 : Int32) (c2 : Int32) (c3 : Int32) (c4 : Int32) (c5 : Int32) (c6 : Int32) (c7 : Int32) (c8 : Int32) : Int32 := (if (((p2 + (1 : Int32)) + (1 : Int32)) + (1 : Int32)) = (1 : Int32) then (f1_57 p2 p3 c0 c1 c2 c3 c4 c5 c6 c7 c8).toInt8.toInt32.toInt8.toInt32 else (f1_39 p2 p3 c0 c1 c2 c3 c4 c5 c6 c7 c8))
def f1_60 (p2 : Int32) (p3 : Int32) (c0 : Int32) (c1 : Int32) (c2 : Int32) (c3 : Int32) (c4 : Int32) (c5 : Int32) (c6 : Int32) (c7 : Int32) (c8 : Int32) : Int32 := (if (((p2 + (1 : Int32)) + (1 : Int32)) + (1 : Int32)) = (2 : Int32) then (f1_57 p2 p3 c0 c1 c2 c3 c4 c5 c6 c7 c8).toInt8.toInt32.toInt8.toInt32 else (f1_40 p2 p3 c0 c1 c2 c3 c4 c5 c6 c7 c8))
def f1_61 (p2 : Int32) (p3 : Int32) (c0 : Int32) (c1 : Int32) (c2 : Int32) (c3 : Int32) (c4 : Int32) (c5 : Int32) (c6 : Int32) (c7 : Int32) (c8 : Int32) : Int32 := (if (((p2 + (1 : Int32)) + (1 : Int32)) + (1 : Int32)) = (3 : Int32) then (f1_57 p2 p3 c0 c1 c2 c3 c4 c5 c6 c7 c8).toInt8.toInt32.toInt8.toInt32 else (f1_41 p2 p3 c0 c1 c2 c3 c4 c5 c6 c7 c8))
def f1_62 (p2 : Int32) (p3 : Int32) (c0 : Int32) (c1 : Int32) (c2 : Int32) (c3 : Int32) (c4 : Int32) (c5 : Int32) (c6 : Int32) (c7 : Int32) (c8 : Int32) : Int32 := (if (((p2 + (1 : Int32)) + (1 : Int32)) + (1 : Int32)) = (4 : Int32) then (f1_57 p2 p3 c0 c1 c2 c3 c4 c5 c6 c7 c8).toInt8.toInt32.toInt8.toInt32 else (f1_42 p2 p3 c0 c1 c2 c3 c4 c5 c6 c7 c8))
def f1_63 (p2 : Int32) (p3 : Int32) (c0 : Int32) (c1 : Int32) (c2 : Int32) (c3 : Int32) (c4 : Int32) (c5 : Int32) (c6 : Int32) (c7 : Int32) (c8 : Int32) : Int32 := (if (((p2 + (1 : Int32)) + (1 : Int32)) + (1 : Int32)) = (5 : Int32) then (f1_57 p2 p3 c0 c1 c2 c3 c4 c5 c6 c7 c8).toInt8.toInt32.toInt8.toInt32 else (f1_43 p2 p3 c0 c1 c2 c3 c4 c5 c6 c7 c8))
def f1_64 (p2 : Int32) (p3 : Int32) (c0 : Int32) (c1 : Int32) (c2 : Int32) (c3 : Int32) (c4 : Int32) (c5 : Int32) (c6 : Int32) (c7 : Int32) (c8 : Int32) : Int32 := (if (((p2 + (1 : Int32)) + (1 : Int32)) + (1 : Int32)) = (6 : Int32) then (f1_57 p2 p3 c0 c1 c2 c3 c4 c5 c6 c7 c8).toInt8.toInt32.toInt8.toInt32 else (f1_44 p2 p3 c0 c1 c2 c3 c4 c5 c6 c7 c8))
def f1_65 (p2 : Int32) (p3 : Int32) (c0 : Int32) (c1 : Int32) (c2 : Int32) (c3 : Int32) (c4 : Int32) (c5 : Int32) (c6 : Int32) (c7 : Int32) (c8 : Int32) : Int32 := (if (((p2 + (1 : Int32)) + (1 : Int32)) + (1 : Int32)) = (7 : Int32) then (f1_57 p2 p3 c0 c1 c2 c3 c4 c5 c6 c7 c8).toInt8.toInt32.toInt8.toInt32 else (f1_45 p2 p3 c0 c1 c2 c3 c4 c5 c6 c7 c8))
def f1_66 (p2 : Int32) (p3 : Int32) (c0 : Int32) (c1 : Int32) (c2 : Int32) (c3 : Int32) (c4 : Int32) (c5 : Int32) (c6 : Int32) (c7 : Int32) (c8 : Int32) : Int32 := (if (((p2 + (1 : Int32)) + (1 : Int32)) + (1 : Int32)) = (8 : Int32) then (f1_57 p2 p3 c0 c1 c2 c3 c4 c5 c6 c7 c8).toInt8.toInt32.toInt8.toInt32 else (f1_46 p2 p3 c0 c1 c2 c3 c4 c5 c6 c7 c8))
def f1_67 (p2 : Int32) (p3 : Int32) (c0 : Int32) (c1 : Int32) (c2 : Int32) (c3 : Int32) (c4 : Int32) (c5 : Int32) (c6 : Int32) (c7 : Int32) (c8 : Int32) : Int32 := ((XT.ushr (XT.ushr (XT.ushr (XT.ushr p3 (7 : Int32)) (7 : Int32)) (7 : Int32)) (7 : Int32)) &&& (-128 : Int32))
def f1_68 (p2 : Int32) (p3 : Int32) (c0 : Int32) (c1 : Int32) (c2 : Int32) (c3 : Int32) (c4 : Int32) (c5 : Int32) (c6 : Int32) (c7 : Int32) (c8 : Int32) : Int32 := (XT.ushr (XT.ushr (XT.ushr (XT.ushr p3 (7 : Int32)) (7 : Int32)) (7 : Int32)) (7 : Int32)).toInt8.toInt32
def f1_69 (p2 : Int32) (p3 : Int32) (c0 : Int32) (c1 : Int32) (c2 : Int32) (c3 : Int32) (c4 : Int32) (c5 : Int32) (c6 : Int32) (c7 : Int32) (c8 : Int32) : Int32 := (if ((((p2 + (1 : Int32)) + (1 : Int32)) + (1 : Int32)) + (1 : Int32)) = (0 : Int32) then (f1_68 p2 p3 c0 c1 c2 c3 c4 c5 c6 c7 c8).toInt8.toInt32 else (f1_58 p2 p3 c0 c1 c2 c3 c4 c5 c6 c7 c8))
def f1_70 (p2 : Int32) (p3 : Int32) (c0 : Int32) (c1 : Int32) (c2 : Int32) (c3 : Int32) (c4 : Int32) (c5 : Int32) (c6 : Int32) (c7 : Int32) (c8 : Int32) : Int32 := (if ((((p2 + (1 : Int32)) + (1 : Int32)) + (1 : Int32)) + (1 : Int32)) = (1 : Int32) then (f1_68 p2 p3 c0 c1 c2 c3 c4 c5 c6 c7 c8).toInt8.toInt32 else (f1_59 p2 p3 c0 c1 c2 c3 c4 c5 c6 c7 c8))
def f1_71 (p2 : Int32) (p3 : Int32) (c0 : Int32) (c1 : Int32) (c2 : Int32) (c3 : Int32) (c4 : Int32) (c5 : Int32) (c6 : Int32) (c7 : Int32) (c8 : Int32) : Int32 := (if ((((p2 + (1 : Int32)) + (1 : Int32)) + (1 : Int32)) + (1 : Int32)) = (2 : Int32) then (f1_68 p2 p3 c0 c1 c2 c3 c4 c5 c6 c7 c8).toInt8.toInt32 else (f1_60 p2 p3 c0 c1 c2 c3 c4 c5 c6 c7 c8))
def f1_72 (p2 : Int32) (p3 : Int32) (c0 : Int32) (c1 : Int32) (c2 : Int32) (c3 : Int32) (c4 : Int32) (c5 : Int32) (c6 : Int32) (c7 : Int32) (c8 : Int32) : Int32 := (if ((((p2 + (1 : Int32)) + (1 : Int32)) + (1 : Int32)) + (1 : Int32)) = (3 : Int32) then (f1_68 p2 p3 c0 c1 c2 c3 c4 c5 c6 c7 c8).toInt8.toInt32 else (f1_61 p2 p3 c0 c1 c2 c3 c4 c5 c6 c7 c8))
def f1_73 (p2 : Int32) (p3 : Int32) (c0 : Int32) (c1 : Int32) (c2 : Int32) (c3 : Int32) (c4 : Int32) (c5 : Int32) (c6 : Int32) (c7 : Int32) (c8 : Int32) : Int32 := (if ((((p2 + (1 : Int32)) + (1 : Int32)) + (1 : Int32)) + (1 : Int32)) = (4 : Int32) then (f1_68 p2 p3 c0 c1 c2 c3 c4 c5 c6 c7 c8).toInt8.toInt32 else (f1_62 p2 p3 c0 c1 c2 c3 c4 c5 c6 c7 c8))
def f1_74 (p2 : Int32) (p3 : Int32) (c0 : Int32) (c1 : Int32) (c2 : Int32) (c3 : Int32) (c4 : Int32) (c5 : Int32) (c6 : Int32) (c7 : Int32) (c8 : Int32) : Int32 := (if ((((p2 + (1 : Int32)) + (1 : Int32)) + (1 : Int32)) + (1 : Int32)) = (5 : Int32) then (f1_68 p2 p3 c0 c1 c2 c3 c4 c5 c6 c7 c8).toInt8.toInt32 else (f1_63 p2 p3 c0 c1 c2 c3 c4 c5 c6 c7 c8))
def f1_75 (p2 : Int32) (p3 : Int32) (c0 : Int32) (c1 : Int32) (c2 : Int32) (c3 : Int32) (c4 : Int32) (c5 : Int32) (c6 : Int32) (c7 : Int32) (c8 : Int32) : Int32 := (if ((((p2 + (1 : Int32)) + (1 : Int32)) + (1 : Int32)) + (1 : Int32)) = (6 : Int32) then (f1_68 p2 p3 c0 c1 c2 c3 c4 c5 c6 c7 c8).toInt8.toInt32 else (f1_64 p2 p3 c0 c1 c2 c3 c4 c5 c6 c7 c8))
def f1_76 (p2 : Int32) (p3 : Int32) (c0 : Int32) (c1 : Int32) (c2 : Int32) (c3 : Int32) (c4 : Int32) (c5 : Int32) (c6 : Int32) (c7 : Int32) (c8 : Int32) : Int32 := (if ((((p2 + (1 : Int32)) + (1 : Int32)) + (1 : Int32)) + (1 : Int32)) = (7 : Int32) then (f1_68 p2 p3 c0 c1 c2 c3 c4 c5 c6 c7 c8).toInt8.toInt32 else (f1_65 p2 p3 c0 c1 c2 c3 c4 c5 c6 c7 c8))
def f1_77 (p2 : Int32) (p3 : Int32) (c0 : Int32) (c1 : Int32) (c2 : Int32) (c3 : Int32) (c4 : Int32) (c5 : Int32) (c6 : Int32) (c7 : Int32) (c8 : Int32) : Int32 := (if ((((p2 + (1 : Int32)) + (1 : Int32)) + (1 : Int32)) + (1 : Int32)) = (8 : Int32) then (f1_68 p2 p3 c0 c1 c2 c3 c4 c5 c6 c7 c8).toInt8.toInt32 else (f1_66 p2 p3 c0 c1 c2 c3 c4 c5 c6 c7 c8))
def f1_x0 (p2 : Int32) (p3 : Int32) (c0 : Int32) (c1 : Int32) (c2 : Int32) (c3 : Int32) (c4 : Int32) (c5 : Int32) (c6 : Int32) (c7 : Int32) (c8 : Int32) : Int32 := (if (p3 &&& (-128 : Int32)) = (0 : Int32) then (if p2 = (0 : Int32) then p3.toInt8.toInt32.toInt8.toInt32 else c0) else (if ((XT.ushr p3 (7 : Int32)) &&& (-128 : Int32)) = (0 : Int32) then (f1_9 p2 p3 c0 c1 c2 c3 c4 c5 c6 c7 c8) else (if ((XT.ushr (XT.ushr p3 (7 : Int32)) (7 : Int32)) &&& (-128 : Int32)) = (0 : Int32) then (f1_28 p2 p3 c0 c1 c2 c3 c4 c5 c6 c7 c8) else (if ((XT.ushr (XT.ushr (XT.ushr p3 (7 : Int32)) (7 : Int32)) (7 : Int32)) &&& (-128 : Int32)) = (0 : Int32) then (f1_48 p2 p3 c0 c1 c2 c3 c4 c5 c6 c7 c8) else (f1_69 p2 p3 c0 c1 c2 c3 c4 c5 c6 c7 c8)))))
def f1_x1 (p2 : Int32) (p3 : Int32) (c0 : Int32) (c1 : Int32) (c2 : Int32) (c3 : Int32) (c4 : Int32) (c5 : Int32) (c6 : Int32) (c7 : Int32) (c8 : Int32) : Int32 := (if (p3 &&& (-128 : Int32)) = (0 : Int32) then (if p2 = (1 : Int32) then p3.toInt8.toInt32.toInt8.toInt32 else c1) else (if ((XT.ushr p3 (7 : Int32)) &&& (-128 : Int32)) = (0 : Int32) then (f1_10 p2 p3 c0 c1 c2 c3 c4 c5 c6 c7 c8) else (if ((XT.ushr (XT.ushr p3 (7 : Int32)) (7 : Int32)) &&& (-128 : Int32)) = (0 : Int32) then (f1_29 p2 p3 c0 c1 c2 c3 c4 c5 c6 c7 c8) else (if ((XT.ushr (XT.ushr (XT.ushr p3 (7 : Int32)) (7 : Int32)) (7 : Int32)) &&& (-128 : Int32)) = (0 : Int32) then (f1_49 p2 p3 c0 c1 c2 c3 c4 c5 c6 c7 c8) else (f1_70 p2 p3 c0 c1 c2 c3 c4 c5 c6 c7 c8)))))
def f1_x2 (p2 : Int32) (p3 : Int32) (c0 : Int32) (c1 : Int32) (c2 : Int32) (c3 : Int32) (c4 : Int32) (c5 : Int32) (c6 : Int32) (c7 : Int32) (c8 : Int32) : Int32 := (if (p3 &&& (-128 : Int32)) = (0 : Int32) then (if p2 = (2 : Int32) then p3.toInt8.toInt32.toInt8.toInt32 else c2) else (if ((XT.ushr p3 (7 : Int32)) &&& (-128 : Int32)) = (0 : Int32) then (f1_11 p2 p3 c0 c1 c2 c3 c4 c5 c6 c7 c8) else (if ((XT.ushr (XT.ushr p3 (7 : Int32)) (7 : Int32)) &&& (-128 : Int32)) = (0 : Int32) then (f1_30 p2 p3 c0 c1 c2 c3 c4 c5 c6 c7 c8) else (if ((XT.ushr (XT.ushr (XT.ushr p3 (7 : Int32)) (7 : Int32)) (7 : Int32)) &&& (-128 : Int32)) = (0 : Int32) then (f1_50 p2 p3 c0 c1 c2 c3 c4 c5 c6 c7 c8) else (f1_71 p2 p3 c0 c1 c2 c3 c4 c5 c6 c7 c8)))))
def f1_x3 (p2 : Int32) (p3 : Int32) (c0 : Int32) (c1 : Int32) (c2 : Int32) (c3 : Int32) (c4 : Int32) (c5 : Int32) (c6 : Int32) (c7 : Int32) (c8 : Int32) : Int32 := (if (p3 &&& (-128 : Int32)) = (0 : Int32) then (if p2 = (3 : Int32) then p3.toInt8.toInt32.toInt8.toInt32 else c3) else (if ((XT.ushr p3 (7 : Int32)) &&& (-128 : Int32)) = (0 : Int32) then (f1_12 p2 p3 c0 c1 c2 c3 c4 c5 c6 c7 c8) else (if ((XT.ushr (XT.ushr p3 (7 : Int32)) (7 : Int32)) &&& (-128 : Int32)) = (0 : Int32) then (f1_31 p2 p3 c0 c1 c2 c3 c4 c5 c6 c7 c8) else (if ((XT.ushr (XT.ushr (XT.ushr p3 (7 : Int32)) (7 : Int32)) (7 : Int32)) &&& (-128 : Int32)) = (0 : Int32) then (f1_51 p2 p3 c0 c1 c2 c3 c4 c5 c6 c7 c8) else (f1_72 p2 p3 c0 c1 c2 c3 c4 c5 c6 c7 c8)))))
def f1_x4 (p2 : Int32) (p3 : Int32) (c0 : Int32) (c1 : Int32) (c2 : Int32) (c3 : Int32) (c4 : Int32) (c5 : Int32) (c6 : Int32) (c7 : Int32) (c8 : Int32) : Int32 := (if (p3 &&& (-128 : Int32)) = (0 : Int32) then (if p2 = (4 : Int32) then p3.toInt8.toInt32.toInt8.toInt32 else c4) else (if ((XT.ushr p3 (7 : Int32)) &&& (-128 : Int32)) = (0 : Int32) then (f1_13 p2 p3 c0 c1 c2 c3 c4 c5 c6 c7 c8) else (if ((XT.ushr (XT.ushr p3 (7 : Int32)) (7 : Int32)) &&& (-128 : Int32)) = (0 : Int32) then (f1_32 p2 p3 c0 c1 c2 c3 c4 c5 c6 c7 c8) else (if ((XT.ushr (XT.ushr (XT.ushr p3 (7 : Int32)) (7 : Int32)) (7 : Int32)) &&& (-128 : Int32)) = (0 : Int32) then (f1_52 p2 p3 c0 c1 c2 c3 c4 c5 c6 c7 c8) else (f1_73 p2 p3 c0 c1 c2 c3 c4 c5 c6 c7 c8)))))
def f1_x5 (p2 : Int32) (p3 : Int32) (c0 : Int32) (c1 : Int32) (c2 : Int32) (c3 : Int32) (c4 : Int32) (c5 : Int32) (c6 : Int32) (c7 : Int32) (c8 : Int32) : Int32 := (if (p3 &&& (-128 : Int32)) = (0 : Int32) then (if p2 = (5 : Int32) then p3.toInt8.toInt32.toInt8.toInt32 else c5) else (if ((XT.ushr p3 (7 : Int32)) &&& (-128 : Int32)) = (0 : Int32) then (f1_14 p2 p3 c0 c1 c2 c3 c4 c5 c6 c7 c8) else (if ((XT.ushr (XT.ushr p3 (7 : Int32)) (7 : Int32)) &&& (-128 : Int32)) = (0 : Int32) then (f1_33 p2 p3 c0 c1 c2 c3 c4 c5 c6 c7 c8) else (if ((XT.ushr (XT.ushr (XT.ushr p3 (7 : Int32)) (7 : Int32)) (7 : Int32)) &&& (-128 : Int32)) = (0 : Int32) then (f1_53 p2 p3 c0 c1 c2 c3 c4 c5 c6 c7 c8) else (f1_74 p2 p3 c0 c1 c2 c3 c4 c5 c6 c7 c8)))))
def f1_x6 (p2 : Int32) (p3 : Int32) (c0 : Int32) (c1 : Int32) (c2 : Int32) (c3 : Int32) (c4 : Int32) (c5 : Int32) (c6 : Int32) (c7 : Int32) (c8 : Int32) : Int32 := (if (p3 &&& (-128 : Int32)) = (0 : Int32) then (if p2 = (6 : Int32) then p3.toInt8.toInt32.toInt8.toInt32 else c6) else (if ((XT.ushr p3 (7 : Int32)) &&& (-128 : Int32)) = (0 : Int32) then (f1_15 p2 p3 c0 c1 c2 c3 c4 c5 c6 c7 c8) else (if ((XT.ushr (XT.ushr p3 (7 : Int32)) (7 : Int32)) &&& (-128 : Int32)) = (0 : Int32) then (f1_34 p2 p3 c0 c1 c2 c3 c4 c5 c6 c7 c8) else (if ((XT.ushr (XT.ushr (XT.ushr p3 (7 : Int32)) (7 : Int32)) (7 : Int32)) &&& (-128 : Int32)) = (0 : Int32) then (f1_54 p2 p3 c0 c1 c2 c3 c4 c5 c6 c7 c8) else (f1_75 p2 p3 c0 c1 c2 c3 c4 c5 c6 c7 c8)))))
def f1_x7 (p2 : Int32) (p3 : Int32) (c0 : Int32) (c1 : Int32) (c2 : Int32) (c3 : Int32) (c4 : Int32) (c5 : Int32) (c6 : Int32) (c7 : Int32) (c8 : Int32) : Int32 := (if (p3 &&& (-128 : Int32)) = (0 : Int32) then (if p2 = (7 : Int32) then p3.toInt8.toInt32.toInt8.toInt32 else c7) else (if ((XT.ushr p3 (7 : Int32)) &&& (-128 : Int32)) = (0 : Int32) then (f1_16 p2 p3 c0 c1 c2 c3 c4 c5 c6 c7 c8) else (if ((XT.ushr (XT.ushr p3 (7 : Int32)) (7 : Int32)) &&& (-128 : Int32)) = (0 : Int32) then (f1_35 p2 p3 c0 c1 c2 c3 c4 c5 c6 c7 c8) else (if ((XT.ushr (XT.ushr (XT.ushr p3 (7 : Int32)) (7 : Int32)) (7 : Int32)) &&& (-128 : Int32)) = (0 : Int32) then (f1_55 p2 p3 c0 c1 c2 c3 c4 c5 c6 c7 c8) else (f1_76 p2 p3 c0 c1 c2 c3 c4 c5 c6 c7 c8)))))
def f1_x8 (p2 : Int32) (p3 : Int32) (c0 : Int32) (c1 : Int32) (c2 : Int32) (c3 : Int32) (c4 : Int32) (c5 : Int32) (c6 : Int32) (c7 : Int32) (c8 : Int32) : Int32 := (if (p3 &&& (-128 : Int32)) = (0 : Int32) then (if p2 = (8 : Int32) then p3.toInt8.toInt32.toInt8.toInt32 else c8) else (if ((XT.ushr p3 (7 : Int32)) &&& (-128 : Int32)) = (0 : Int32) then (f1_17 p2 p3 c0 c1 c2 c3 c4 c5 c6 c7 c8) else (if ((XT.ushr (XT.ushr p3 (7 : Int32)) (7 : Int32)) &&& (-128 : Int32)) = (0 : Int32) then (f1_36 p2 p3 c0 c1 c2 c3 c4 c5 c6 c7 c8) else (if ((XT.ushr (XT.ushr (XT.ushr p3 (7 : Int32)) (7 : Int32)) (7 : Int32)) &&& (-128 : Int32)) = (0 : Int32) then (f1_56 p2 p3 c0 c1 c2 c3 c4 c5 c6 c7 c8) else (f1_77 p2 p3 c0 c1 c2 c3 c4 c5 c6 c7 c8)))))
def f1 (p2 : Int32) (p3 : Int32) (c0 : Int32) (c1 : Int32) (c2 : Int32) (c3 : Int32) (c4 : Int32) (c5 : Int32) (c6 : Int32) (c7 : Int32) (c8 : Int32) : Int32 := (if (p3 &&& (-128 : Int32)) = (0 : Int32) then (p2 + (1 : Int32)) else (if ((XT.ushr p3 (7 : Int32)) &&& (-128 : Int32)) = (0 : Int32) then ((p2 + (1 : Int32)) + (1 : Int32)) else (if ((XT.ushr (XT.ushr p3 (7 : Int32)) (7 : Int32)) &&& (-128 : Int32)) = (0 : Int32) then (((p2 + (1 : Int32)) + (1 : Int32)) + (1 : Int32)) else (if ((XT.ushr (XT.ushr (XT.ushr p3 (7 : Int32)) (7 : Int32)) (7 : Int32)) &&& (-128 : Int32)) = (0 : Int32) then ((((p2 + (1 : Int32)) + (1 : Int32)) + (1 : Int32)) + (1 : Int32)) else (((((p2 + (1 : Int32)) + (1 : Int32)) + (1 : Int32)) + (1 : Int32)) + (1 : Int32))))))
def f2 (p1 : Int32) : Int32 := (if (XT.ushr p1 (7 : Int32)) = (0 : Int32) then (1 : Int32) else (if (XT.ushr p1 (14 : Int32)) = (0 : Int32) then (2 : Int32) else (if (XT.ushr p1 (21 : Int32)) = (0 : Int32) then (3 : Int32) else (if (XT.ushr p1 (28 : Int32)) = (0 : Int32) then (4 : Int32) else (5 : Int32)))))
def fok0_0 (p3 : Int32) (p4 : Int32) (p5 : Int32) (p6 : Int32) (c0 : Int32) (c1 : Int32) (c2 : Int32) (c3 : Int32) (c4 : Int32) (c5 : Int32) (c6 : Int32) (c7 : Int32) (c8 : Int32) : Int32 := (if ((0 : Int32) - p3) < (p4 - (1 : Int32)) then (((XT.ushr p5 ((7 : Int32) * ((0 : Int32) - p3))) &&& (127 : Int32)) ||| (128 : Int32)) else ((XT.ushr p5 ((7 : Int32) * ((0 : Int32) - p3))) &&& (127 : Int32)))
def fok0_1 (p3 : Int32) (p4 : Int32) (p5 : Int32) (p6 : Int32) (c0 : Int32) (c1 : Int32) (c2 : Int32) (c3 : Int32) (c4 : Int32) (c5 : Int32) (c6 : Int32) (c7 : Int32) (c8 : Int32) : Int32 := (if c0 = (fok0_0 p3 p4 p5 p6 c0 c1 c2 c3 c4 c5 c6 c7 c8).toInt8.toInt32 then (1 : Int32) else (0 : Int32))
def fok0 (p3 : Int32) (p4 : Int32) (p5 : Int32) (p6 : Int32) (c0 : Int32) (c1 : Int32) (c2 : Int32) (c3 : Int32) (c4 : Int32) (c5 : Int32) (c6 : Int32) (c7 : Int32) (c8 : Int32) : Int32 := (if (0 : Int32) < p3 then ((if c0 = p6 then (1 : Int32) else (0 : Int32)) &&& 1) else (if (0 : Int32) < (p3 + p4) then ((fok0_1 p3 p4 p5 p6 c0 c1 c2 c3 c4 c5 c6 c7 c8) &&& 1) else ((if c0 = p6 then (1 : Int32) else (0 : Int32)) &&& 1)))
def fok1_0 (p3 : Int32) (p4 : Int32) (p5 : Int32) (p6 : Int32) (c0 : Int32) (c1 : Int32) (c2 : Int32) (c3 : Int32) (c4 : Int32) (c5 : Int32) (c6 : Int32) (c7 : Int32) (c8 : Int32) : Int32 := (if ((1 : Int32) - p3) < (p4 - (1 : Int32)) then (((XT.ushr p5 ((7 : Int32) * ((1 : Int32) - p3))) &&& (127 : Int32)) ||| (128 : Int32)) else ((XT.ushr p5 ((7 : Int32) * ((1 : Int32) - p3))) &&& (127 : Int32)))
def fok1_1 (p3 : Int32) (p4 : Int32) (p5 : Int32) (p6 : Int32) (c0 : Int32) (c1 : Int32) (c2 : Int32) (c3 : Int32) (c4 : Int32) (c5 : Int32) (c6 : Int32) (c7 : Int32) (c8 : Int32) : Int32 := (if c1 = (fok1_0 p3 p4 p5 p6 c0 c1 c2 c3 c4 c5 c6 c7 c8).toInt8.toInt32 then (1 : Int32) else (0 : Int32))
def fok1 (p3 : Int32) (p4 : Int32) (p5 : Int32) (p6 : Int32) (c0 : Int32) (c1 : Int32) (c2 : Int32) (c3 : Int32) (c4 : Int32) (c5 : Int32) (c6 : Int32) (c7 : Int32) (c8 : Int32) : Int32 := (if (1 : Int32) < p3 then ((if c1 = p6 then (1 : Int32) else (0 : Int32)) &&& 1) else (if (1 : Int32) < (p3 + p4) then ((fok1_1 p3 p4 p5 p6 c0 c1 c2 c3 c4 c5 c6 c7 c8) &&& 1) else ((if c1 = p6 then (1 : Int32) else (0 : Int32)) &&& 1)))
def fok2_0 (p3 : Int32) (p4 : Int32) (p5 : Int32) (p6 : Int32) (c0 : Int32) (c1 : Int32) (c2 : Int32) (c3 : Int32) (c4 : Int32) (c5 : Int32) (c6 : Int32) (c7 : Int32) (c8 : Int32) : Int32 := (if ((2 : Int32) - p3) < (p4 - (1 : Int32)) then (((XT.ushr p5 ((7 : Int32) * ((2 : Int32) - p3))) &&& (127 : Int32)) ||| (128 : Int32)) else ((XT.ushr p5 ((7 : Int32) * ((2 : Int32) - p3))) &&& (127 : Int32)))
def fok2_1 (p3 : Int32) (p4 : Int32) (p5 : Int32) (p6 : Int32) (c0 : Int32) (c1 : Int32) (c2 : Int32) (c3 : Int32) (c4 : Int32) (c5 : Int32) (c6 : Int32) (c7 : Int32) (c8 : Int32) : Int32 := (if c2 = (fok2_0 p3 p4 p5 p6 c0 c1 c2 c3 c4 c5 c6 c7 c8).toInt8.toInt32 then (1 : Int32) else (0 : Int32))
def fok2 (p3 : Int32) (p4 : Int32) (p5 : Int32) (p6 : Int32) (c0 : Int32) (c1 : Int32) (c2 : Int32) (c3 : Int32) (c4 : Int32) (c5 : Int32) (c6 : Int32) (c7 : Int32) (c8 : Int32) : Int32 := (if (2 : Int32) < p3 then ((if c2 = p6 then (1 : Int32) else (0 : Int32)) &&& 1) else (if (2 : Int32) < (p3 + p4) then ((fok2_1 p3 p4 p5 p6 c0 c1 c2 c3 c4 c5 c6 c7 c8) &&& 1) else ((if c2 = p6 then (1 : Int32) else (0 : Int32)) &&& 1)))
def fok3_0 (p3 : Int32) (p4 : Int32) (p5 : Int32) (p6 : Int32) (c0 : Int32) (c1 : Int32) (c2 : Int32) (c3 : Int32) (c4 : Int32) (c5 : Int32) (c6 : Int32) (c7 : Int32) (c8 : Int32) : Int32 := (if ((3 : Int32) - p3) < (p4 - (1 : Int32)) then (((XT.ushr p5 ((7 : Int32) * ((3 : Int32) - p3))) &&& (127 : Int32)) ||| (128 : Int32)) else ((XT.ushr p5 ((7 : Int32) * ((3 : Int32) - p3))) &&& (127 : Int32)))
def fok3_1 (p3 : Int32) (p4 : Int32) (p5 : Int32) (p6 : Int32) (c0 : Int32) (c1 : Int32) (c2 : Int32) (c3 : Int32) (c4 : Int32) (c5 : Int32) (c6 : Int32) (c7 : Int32) (c8 : Int32) : Int32 := (if c3 = (fok3_0 p3 p4 p5 p6 c0 c1 c2 c3 c4 c5 c6 c7 c8).toInt8.toInt32 then (1 : Int32) else (0 : Int32))
def fok3 (p3 : Int32) (p4 : Int32) (p5 : Int32) (p6 : Int32) (c0 : Int32) (c1 : Int32) (c2 : Int32) (c3 : Int32) (c4 : Int32) (c5 : Int32) (c6 : Int32) (c7 : Int32) (c8 : Int32) : Int32 := (if (3 : Int32) < p3 then ((if c3 = p6 then (1 : Int32) else (0 : Int32)) &&& 1) else (if (3 : Int32) < (p3 + p4) then ((fok3_1 p3 p4 p5 p6 c0 c1 c2 c3 c4 c5 c6 c7 c8) &&& 1) else ((if c3 = p6 then (1 : Int32) else (0 : Int32)) &&& 1)))
def fok4_0 (p3 : Int32) (p4 : Int32) (p5 : Int32) (p6 : Int32) (c0 : Int32) (c1 : Int32) (c2 : Int32) (c3 : Int32) (c4 : Int32) (c5 : Int32) (c6 : Int32) (c7 : Int32) (c8 : Int32) : Int32 := (if ((4 : Int32) - p3) < (p4 - (1 : Int32)) then (((XT.ushr p5 ((7 : Int32) * ((4 : Int32) - p3))) &&& (127 : Int32)) ||| (128 : Int32)) else ((XT.ushr p5 ((7 : Int32) * ((4 : Int32) - p3))) &&& (127 : Int32)))
def fok4_1 (p3 : Int32) (p4 : Int32) (p5 : Int32) (p6 : Int32) (c0 : Int32) (c1 : Int32) (c2 : Int32) (c3 : Int32) (c4 : Int32) (c5 : Int32) (c6 : Int32) (c7 : Int32) (c8 : Int32) : Int32 := (if c4 = (fok4_0 p3 p4 p5 p6 c0 c1 c2 c3 c4 c5 c6 c7 c8).toInt8.toInt32 then (1 : Int32) else (0 : Int32))
def fok4 (p3 : Int32) (p4 : Int32) (p5 : Int32) (p6 : Int32) (c0 : Int32) (c1 : Int32) (c2 : Int32) (c3 : Int32) (c4 : Int32) (c5 : Int32) (c6 : Int32) (c7 : Int32) (c8 : Int32) : Int32 := (if (4 : Int32) < p3 then ((if c4 = p6 then (1 : Int32) else (0 : Int32)) &&& 1) else (if (4 : Int32) < (p3 + p4) then ((fok4_1 p3 p4 p5 p6 c0 c1 c2 c3 c4 c5 c6 c7 c8) &&& 1) else ((if c4 = p6 then (1 : Int32) else (0 : Int32)) &&& 1)))
def fok5_0 (p3 : Int32) (p4 : Int32) (p5 : Int32) (p6 : Int32) (c0 : Int32) (c1 : Int32) (c2 : Int32) (c3 : Int32) (c4 : Int32) (c5 : Int32) (c6 : Int32) (c7 : Int32) (c8 : Int32) : Int32 := (if ((5 : Int32) - p3) < (p4 - (1 : Int32)) then (((XT.ushr p5 ((7 : Int32) * ((5 : Int32) - p3))) &&& (127 : Int32)) ||| (128 : Int32)) else ((XT.ushr p5 ((7 : Int32) * ((5 : Int32) - p3))) &&& (127 : Int32)))
def fok5_1 (p3 : Int32) (p4 : Int32) (p5 : Int32) (p6 : Int32) (c0 : Int32) (c1 : Int32) (c2 : Int32) (c3 : Int32) (c4 : Int32) (c5 : Int32) (c6 : Int32) (c7 : Int32) (c8 : Int32) : Int32 := (if c5 = (fok5_0 p3 p4 p5 p6 c0 c1 c2 c3 c4 c5 c6 c7 c8).toInt8.toInt32 then (1 : Int32) else (0 : Int32))
def fok5 (p3 : Int32) (p4 : Int32) (p5 : Int32) (p6 : Int32) (c0 : Int32) (c1 : Int32) (c2 : Int32) (c3 : Int32) (c4 : Int32) (c5 : Int32) (c6 : Int32) (c7 : Int32) (c8 : Int32) : Int32 := (if (5 : Int32) < p3 then ((if c5 = p6 then (1 : Int32) else (0 : Int32)) &&& 1) else (if (5 : Int32) < (p3 + p4) then ((fok5_1 p3 p4 p5 p6 c0 c1 c2 c3 c4 c5 c6 c7 c8) &&& 1) else ((if c5 = p6 then (1 : Int32) else (0 : Int32)) &&& 1)))
def fok6_0 (p3 : Int32) (p4 : Int32) (p5 : Int32) (p6 : Int32) (c0 : Int32) (c1 : Int32) (c2 : Int32) (c3 : Int32) (c4 : Int32) (c5 : Int32) (c6 : Int32) (c7 : Int32) (c8 : Int32) : Int32 := (if ((6 : Int32) - p3) < (p4 - (1 : Int32)) then (((XT.ushr p5 ((7 : Int32) * ((6 : Int32) - p3))) &&& (127 : Int32)) ||| (128 : Int32)) else ((XT.ushr p5 ((7 : Int32) * ((6 : Int32) - p3))) &&& (127 : Int32)))
def fok6_1 (p3 : Int32) (p4 : Int32) (p5 : Int32) (p6 : Int32) (c0 : Int32) (c1 : Int32) (c2 : Int32) (c3 : Int32) (c4 : Int32) (c5 : Int32) (c6 : Int32) (c7 : Int32) (c8 : Int32) : Int32 := (if c6 = (fok6_0 p3 p4 p5 p6 c0 c1 c2 c3 c4 c5 c6 c7 c8).toInt8.toInt32 then (1 : Int32) else (0 : Int32))
def fok6 (p3 : Int32) (p4 : Int32) (p5 : Int32) (p6 : Int32) (c0 : Int32) (c1 : Int32) (c2 : Int32) (c3 : Int32) (c4 : Int32) (c5 : Int32) (c6 : Int32) (c7 : Int32) (c8 : Int32) : Int32 := (if (6 : Int32) < p3 then ((if c6 = p6 then (1 : Int32) else (0 : Int32)) &&& 1) else (if (6 : Int32) < (p3 + p4) then ((fok6_1 p3 p4 p5 p6 c0 c1 c2 c3 c4 c5 c6 c7 c8) &&& 1) else ((if c6 = p6 then (1 : Int32) else (0 : Int32)) &&& 1)))
def fok7_0 (p3 : Int32) (p4 : Int32) (p5 : Int32) (p6 : Int32) (c0 : Int32) (c1 : Int32) (c2 : Int32) (c3 : Int32) (c4 : Int32) (c5 : Int32) (c6 : Int32) (c7 : Int32) (c8 : Int32) : Int32 := (if ((7 : Int32) - p3) < (p4 - (1 : Int32)) then (((XT.ushr p5 ((7 : Int32) * ((7 : Int32) - p3))) &&& (127 : Int32)) ||| (128 : Int32)) else ((XT.ushr p5 ((7 : Int32) * ((7 : Int32) - p3))) &&& (127 : Int32)))
def fok7_1 (p3 : Int32) (p4 : Int32) (p5 : Int32) (p6 : Int32) (c0 : Int32) (c1 : Int32) (c2 : Int32) (c3 : Int32) (c4 : Int32) (c5 : Int32) (c6 : Int32) (c7 : Int32) (c8 : Int32) : Int32 := (if c7 = (fok7_0 p3 p4 p5 p6 c0 c1 c2 c3 c4 c5 c6 c7 c8).toInt8.toInt32 then (1 : Int32) else (0 : Int32))
def fok7 (p3 : Int32) (p4 : Int32) (p5 : Int32) (p6 : Int32) (c0 : Int32) (c1 : Int32) (c2 : Int32) (c3 : Int32) (c4 : Int32) (c5 : Int32) (c6 : Int32) (c7 : Int32) (c8 : Int32) : Int32 := (if (7 : Int32) < p3 then ((if c7 = p6 then (1 : Int32) else (0 : Int32)) &&& 1) else (if (7 : Int32) < (p3 + p4) then ((fok7_1 p3 p4 p5 p6 c0 c1 c2 c3 c4 c5 c6 c7 c8) &&& 1) else ((if c7 = p6 then (1 : Int32) else (0 : Int32)) &&& 1)))
def fok8_0 (p3 : Int32) (p4 : Int32) (p5 : Int32) (p6 : Int32) (c0 : Int32) (c1 : Int32) (c2 : Int32) (c3 : Int32) (c4 : Int32) (c5 : Int32) (c6 : Int32) (c7 : Int32) (c8 : Int32) : Int32 := (if ((8 : Int32) - p3) < (p4 - (1 : Int32)) then (((XT.ushr p5 ((7 : Int32) * ((8 : Int32) - p3))) &&& (127 : Int32)) ||| (128 : Int32)) else ((XT.ushr p5 ((7 : Int32) * ((8 : Int32) - p3))) &&& (127 : Int32)))
def fok8_1 (p3 : Int32) (p4 : Int32) (p5 : Int32) (p6 : Int32) (c0 : Int32) (c1 : Int32) (c2 : Int32) (c3 : Int32) (c4 : Int32) (c5 : Int32) (c6 : Int32) (c7 : Int32) (c8 : Int32) : Int32 := (if c8 = (fok8_0 p3 p4 p5 p6 c0 c1 c2 c3 c4 c5 c6 c7 c8).toInt8.toInt32 then (1 : Int32) else (0 : Int32))
def fok8 (p3 : Int32) (p4 : Int32) (p5 : Int32) (p6 : Int32) (c0 : Int32) (c1 : Int32) (c2 : Int32) (c3 : Int32) (c4 : Int32) (c5 : Int32) (c6 : Int32) (c7 : Int32) (c8 : Int32) : Int32 := (if (8 : Int32) < p3 then ((if c8 = p6 then (1 : Int32) else (0 : Int32)) &&& 1) else (if (8 : Int32) < (p3 + p4) then ((fok8_1 p3 p4 p5 p6 c0 c1 c2 c3 c4 c5 c6 c7 c8) &&& 1) else ((if c8 = p6 then (1 : Int32) else (0 : Int32)) &&& 1)))
def f0_0 (p1 : Int32) (p2 : Int32) (p3 : Int32) : Int32 := (f1_x0 (p2 &&& (3 : Int32)) p1 p3.toInt8.toInt32.toInt8.toInt32 p3.toInt8.toInt32.toInt8.toInt32 p3.toInt8.toInt32.toInt8.toInt32 p3.toInt8.toInt32.toInt8.toInt32 p3.toInt8.toInt32.toInt8.toInt32 p3.toInt8.toInt32.toInt8.toInt32 p3.toInt8.toInt32.toInt8.toInt32 p3.toInt8.toInt32.toInt8.toInt32 p3.toInt8.toInt32.toInt8.toInt32)
def f0_1 (p1 : Int32) (p2 : Int32) (p3 : Int32) : Int32 := (f1_x1 (p2 &&& (3 : Int32)) p1 p3.toInt8.toInt32.toInt8.toInt32 p3.toInt8.toInt32.toInt8.toInt32 p3.toInt8.toInt32.toInt8.toInt32 p3.toInt8.toInt32.toInt8.toInt32 p3.toInt8.toInt32.toInt8.toInt32 p3.toInt8.toInt32.toInt8.toInt32 p3.toInt8.toInt32.toInt8.toInt32 p3.toInt8.toInt32.toInt8.toInt32 p3.toInt8.toInt32.toInt8.toInt32)
def f0_2 (p1 : Int32) (p2 : Int32) (p3 : Int32) : Int32 := (f1_x2 (p2 &&& (3 : Int32)) p1 p3.toInt8.toInt32.toInt8.toInt32 p3.toInt8.toInt32.toInt8.toInt32 p3.toInt8.toInt32.toInt8.toInt32 p3.toInt8.toInt32.toInt8.toInt32 p3.toInt8.toInt32.toInt8.toInt32 p3.toInt8.toInt32.toInt8.toInt32 p3.toInt8.toInt32.toInt8.toInt32 p3.toInt8.toInt32.toInt8.toInt32 p3.toInt8.toInt32.toInt8.toInt32)
def f0_3 (p1 : Int32) (p2 : Int32) (p3 : Int32) : Int32 := (f1_x3 (p2 &&& (3 : Int32)) p1 p3.toInt8.toInt32.toInt8.toInt32 p3.toInt8.toInt32.toInt8.toInt32 p3.toInt8.toInt32.toInt8.toInt32 p3.toInt8.toInt32.toInt8.toInt32 p3.toInt8.toInt32.toInt8.toInt32 p3.toInt8.toInt32.toInt8.toInt32 p3.toInt8.toInt32.toInt8.toInt32 p3.toInt8.toInt32.toInt8.toInt32 p3.toInt8.toInt32.toInt8.toInt32)
def f0_4 (p1 : Int32) (p2 : Int32) (p3 : Int32) : Int32 := (f1_x4 (p2 &&& (3 : Int32)) p1 p3.toInt8.toInt32.toInt8.toInt32 p3.toInt8.toInt32.toInt8.toInt32 p3.toInt8.toInt32.toInt8.toInt32 p3.toInt8.toInt32.toInt8.toInt32 p3.toInt8.toInt32.toInt8.toInt32 p3.toInt8.toInt32.toInt8.toInt32 p3.toInt8.toInt32.toInt8.toInt32 p3.toInt8.toInt32.toInt8.toInt32 p3.toInt8.toInt32.toInt8.toInt32)
def f0_5 (p1 : Int32) (p2 : Int32) (p3 : Int32) : Int32 := (f1_x5 (p2 &&& (3 : Int32)) p1 p3.toInt8.toInt32.toInt8.toInt32 p3.toInt8.toInt32.toInt8.toInt32 p3.toInt8.toInt32.toInt8.toInt32 p3.toInt8.toInt32.toInt8.toInt32 p3.toInt8.toInt32.toInt8.toInt32 p3.toInt8.toInt32.toInt8.toInt32 p3.toInt8.toInt32.toInt8.toInt32 p3.toInt8.toInt32.toInt8.toInt32 p3.toInt8.toInt32.toInt8.toInt32)
def f0_6 (p1 : Int32) (p2 : Int32) (p3 : Int32) : Int32 := (f1_x6 (p2 &&& (3 : Int32)) p1 p3.toInt8.toInt32.toInt8.toInt32 p3.toInt8.toInt32.toInt8.toInt32 p3.toInt8.toInt32.toInt8.toInt32 p3.toInt8.toInt32.toInt8.toInt32 p3.toInt8.toInt32.toInt8.toInt32 p3.toInt8.toInt32.toInt8.toInt32 p3.toInt8.toInt32.toInt8.toInt32 p3.toInt8.toInt32.toInt8.toInt32 p3.toInt8.toInt32.toInt8.toInt32)
def f0_7 (p1 : Int32) (p2 : Int32) (p3 : Int32) : Int32 := (f1_x7 (p2 &&& (3 : Int32)) p1 p3.toInt8.toInt32.toInt8.toInt32 p3.toInt8.toInt32.toInt8.toInt32 p3.toInt8.toInt32.toInt8.toInt32 p3.toInt8.toInt32.toInt8.toInt32 p3.toInt8.toInt32.toInt8.toInt32 p3.toInt8.toInt32.toInt8.toInt32 p3.toInt8.toInt32.toInt8.toInt32 p3.toInt8.toInt32.toInt8.toInt32 p3.toInt8.toInt32.toInt8.toInt32)
def f0_8 (p1 : Int32) (p2 : Int32) (p3 : Int32) : Int32 := (f1_x8 (p2 &&& (3 : Int32)) p1 p3.toInt8.toInt32.toInt8.toInt32 p3.toInt8.toInt32.toInt8.toInt32 p3.toInt8.toInt32.toInt8.toInt32 p3.toInt8.toInt32.toInt8.toInt32 p3.toInt8.toInt32.toInt8.toInt32 p3.toInt8.toInt32.toInt8.toInt32 p3.toInt8.toInt32.toInt8.toInt32 p3.toInt8.toInt32.toInt8.toInt32 p3.toInt8.toInt32.toInt8.toInt32)
def f0_9 (p1 : Int32) (p2 : Int32) (p3 : Int32) : Int32 := (f1 (p2 &&& (3 : Int32)) p1 p3.toInt8.toInt32.toInt8.toInt32 p3.toInt8.toInt32.toInt8.toInt32 p3.toInt8.toInt32.toInt8.toInt32 p3.toInt8.toInt32.toInt8.toInt32 p3.toInt8.toInt32.toInt8.toInt32 p3.toInt8.toInt32.toInt8.toInt32 p3.toInt8.toInt32.toInt8.toInt32 p3.toInt8.toInt32.toInt8.toInt32 p3.toInt8.toInt32.toInt8.toInt32)
def f0_10 (p1 : Int32) (p2 : Int32) (p3 : Int32) : Int32 := (fok0 (p2 &&& (3 : Int32)) (f2 p1) p1 p3.toInt8.toInt32 (f0_0 p1 p2 p3) (f0_1 p1 p2 p3) (f0_2 p1 p2 p3) (f0_3 p1 p2 p3) (f0_4 p1 p2 p3) (f0_5 p1 p2 p3) (f0_6 p1 p2 p3) (f0_7 p1 p2 p3) (f0_8 p1 p2 p3))
def f0_11 (p1 : Int32) (p2 : Int32) (p3 : Int32) : Int32 := (fok1 (p2 &&& (3 : Int32)) (f2 p1) p1 p3.toInt8.toInt32 (f0_0 p1 p2 p3) (f0_1 p1 p2 p3) (f0_2 p1 p2 p3) (f0_3 p1 p2 p3) (f0_4 p1 p2 p3) (f0_5 p1 p2 p3) (f0_6 p1 p2 p3) (f0_7 p1 p2 p3) (f0_8 p1 p2 p3))
def f0_12 (p1 : Int32) (p2 : Int32) (p3 : Int32) : Int32 := (fok2 (p2 &&& (3 : Int32)) (f2 p1) p1 p3.toInt8.toInt32 (f0_0 p1 p2 p3) (f0_1 p1 p2 p3) (f0_2 p1 p2 p3) (f0_3 p1 p2 p3) (f0_4 p1 p2 p3) (f0_5 p1 p2 p3) (f0_6 p1 p2 p3) (f0_7 p1 p2 p3) (f0_8 p1 p2 p3))
def f0_13 (p1 : Int32) (p2 : Int32) (p3 : Int32) : Int32 := (fok3 (p2 &&& (3 : Int32)) (f2 p1) p1 p3.toInt8.toInt32 (f0_0 p1 p2 p3) (f0_1 p1 p2 p3) (f0_2 p1 p2 p3) (f0_3 p1 p2 p3) (f0_4 p1 p2 p3) (f0_5 p1 p2 p3) (f0_6 p1 p2 p3) (f0_7 p1 p2 p3) (f0_8 p1 p2 p3))
def f0_14 (p1 : Int32) (p2 : Int32) (p3 : Int32) : Int32 := (fok4 (p2 &&& (3 : Int32)) (f2 p1) p1 p3.toInt8.toInt32 (f0_0 p1 p2 p3) (f0_1 p1 p2 p3) (f0_2 p1 p2 p3) (f0_3 p1 p2 p3) (f0_4 p1 p2 p3) (f0_5 p1 p2 p3) (f0_6 p1 p2 p3) (f0_7 p1 p2 p3) (f0_8 p1 p2 p3))
def f0_15 (p1 : Int32) (p2 : Int32) (p3 : Int32) : Int32 := (fok5 (p2 &&& (3 : Int32)) (f2 p1) p1 p3.toInt8.toInt32 (f0_0 p1 p2 p3) (f0_1 p1 p2 p3) (f0_2 p1 p2 p3) (f0_3 p1 p2 p3) (f0_4 p1 p2 p3) (f0_5 p1 p2 p3) (f0_6 p1 p2 p3) (f0_7 p1 p2 p3) (f0_8 p1 p2 p3))
def f0_16 (p1 : Int32) (p2 : Int32) (p3 : Int32) : Int32 := (fok6 (p2 &&& (3 : Int32)) (f2 p1) p1 p3.toInt8.toInt32 (f0_0 p1 p2 p3) (f0_1 p1 p2 p3) (f0_2 p1 p2 p3) (f0_3 p1 p2 p3) (f0_4 p1 p2 p3) (f0_5 p1 p2 p3) (f0_6 p1 p2 p3) (f0_7 p1 p2 p3) (f0_8 p1 p2 p3))
def f0_17 (p1 : Int32) (p2 : Int32) (p3 : Int32) : Int32 := (fok7 (p2 &&& (3 : Int32)) (f2 p1) p1 p3.toInt8.toInt32 (f0_0 p1 p2 p3) (f0_1 p1 p2 p3) (f0_2 p1 p2 p3) (f0_3 p1 p2 p3) (f0_4 p1 p2 p3) (f0_5 p1 p2 p3) (f0_6 p1 p2 p3) (f0_7 p1 p2 p3) (f0_8 p1 p2 p3))
def f0_18 (p1 : Int32) (p2 : Int32) (p3 : Int32) : Int32 := (fok8 (p2 &&& (3 : Int32)) (f2 p1) p1 p3.toInt8.toInt32 (f0_0 p1 p2 p3) (f0_1 p1 p2 p3) (f0_2 p1 p2 p3) (f0_3 p1 p2 p3) (f0_4 p1 p2 p3) (f0_5 p1 p2 p3) (f0_6 p1 p2 p3) (f0_7 p1 p2 p3) (f0_8 p1 p2 p3))
def f0_19 (p1 : Int32) (p2 : Int32) (p3 : Int32) : Int32 := (if (f0_17 p1 p2 p3) = (0 : Int32) then (0 : Int32) else (if (f0_18 p1 p2 p3) = (0 : Int32) then (0 : Int32) else (1 : Int32)))
def f0_20 (p1 : Int32) (p2 : Int32) (p3 : Int32) : Int32 := (if (f0_15 p1 p2 p3) = (0 : Int32) then (0 : Int32) else (if (f0_16 p1 p2 p3) = (0 : Int32) then (0 : Int32) else (f0_19 p1 p2 p3)))
def f0_21 (p1 : Int32) (p2 : Int32) (p3 : Int32) : Int32 := (if (f0_13 p1 p2 p3) = (0 : Int32) then (0 : Int32) else (if (f0_14 p1 p2 p3) = (0 : Int32) then (0 : Int32) else (f0_20 p1 p2 p3)))
def f0_22 (p1 : Int32) (p2 : Int32) (p3 : Int32) : Int32 := (if (f0_11 p1 p2 p3) = (0 : Int32) then (0 : Int32) else (if (f0_12 p1 p2 p3) = (0 : Int32) then (0 : Int32) else (f0_21 p1 p2 p3)))
def f0 (p1 : Int32) (p2 : Int32) (p3 : Int32) : Int32 := (if (f0_9 p1 p2 p3) = ((p2 &&& (3 : Int32)) + (f2 p1)) then ((if (f0_10 p1 p2 p3) = (0 : Int32) then (0 : Int32) else (f0_22 p1 p2 p3)) &&& 1) else (0 : Int32))
theorem own_ii (x : Int32) : x.toInt8.toInt32.toInt8.toInt32 = x.toInt8.toInt32 := by
  rw [Int8.toInt8_toInt32]
theorem own_at (p : Int32) : own_in4 (p &&& (3 : Int32)) := own_and3 p
theorem own_shn (x q : Int32) (k : Nat) (hq : ((q &&& 31).toUInt32.toBitVec % 32).toNat = k) : (XT.ushr x q).toBitVec = x.toBitVec >>> k := by
  show (x.toBitVec >>> ((q &&& 31).toUInt32.toBitVec % 32)) = _
  rw [BitVec.ushiftRight_eq', hq]
theorem own_u0 (v : Int32) : XT.ushr v 0 = v := by
  rw [← Int32.toBitVec_inj, own_shn v 0 0 (by decide)]; rfl
theorem own_uu (v q r : Int32) (k : Nat) (hq : ((q &&& 31).toUInt32.toBitVec % 32).toNat = k) (hr : ((r &&& 31).toUInt32.toBitVec % 32).toNat = k + 7) : XT.ushr (XT.ushr v q) 7 = XT.ushr v r := by
  rw [← Int32.toBitVec_inj, own_shn _ 7 7 (by decide), own_shn v q k hq, own_shn v r (k + 7) hr, BitVec.shiftRight_add]
theorem own_hi (x : Int32) : (x &&& (-128 : Int32)) = 0 ↔ XT.ushr x 7 = 0 := by
  rw [← Int32.toBitVec_inj, ← Int32.toBitVec_inj, own_shn x 7 7 (by decide), Int32.toBitVec_and]
  have h1 : (-128 : Int32).toBitVec = 4294967168#32 := by decide
  have hz : (0 : Int32).toBitVec = 0#32 := by decide
  rw [h1, hz]
  constructor
  · intro h
    apply BitVec.eq_of_getLsbD_eq
    intro i hi
    have := congrArg (fun z => z.getLsbD (i + 7)) h
    simp only [BitVec.getLsbD_and] at this
    rw [BitVec.getLsbD_ushiftRight, Nat.add_comm]
    by_cases c : i + 7 < 32
    · have m : (4294967168#32).getLsbD (i + 7) = true := by
        have : ∀ j : Fin 25, (4294967168#32).getLsbD (j.val + 7) = true := by decide +kernel
        exact this ⟨i, by omega⟩
      rw [m, Bool.and_true, BitVec.getLsbD_zero] at this
      rw [this, BitVec.getLsbD_zero]
    · rw [BitVec.getLsbD_of_ge _ _ (by omega), BitVec.getLsbD_zero]
  · intro h
    apply BitVec.eq_of_getLsbD_eq
    intro i hi
    rw [BitVec.getLsbD_and]
    by_cases c : i < 7
    · have m : (4294967168#32).getLsbD i = false := by
        have : ∀ j : Fin 7, (4294967168#32).getLsbD j.val = false := by decide +kernel
        exact this ⟨i, c⟩
      rw [m, Bool.and_false, BitVec.getLsbD_zero]
    · have := congrArg (fun z => z.getLsbD (i - 7)) h
      simp only [BitVec.getLsbD_ushiftRight] at this
      rw [show 7 + (i - 7) = i by omega] at this
      rw [this]; simp
theorem own_28 (v : Int32) : ((XT.ushr (XT.ushr (XT.ushr (XT.ushr v (7 : Int32)) (7 : Int32)) (7 : Int32)) (7 : Int32)) &&& (-128 : Int32)) = 0 := by
  rw [own_hi, own_uu v 7 14 7 (by decide) (by decide), own_uu v 14 21 14 (by decide) (by decide), own_uu v 21 28 21 (by decide) (by decide), ← Int32.toBitVec_inj, own_shn _ 7 7 (by decide), own_shn v 28 28 (by decide), ← BitVec.shiftRight_add]
  apply BitVec.eq_of_toNat_eq
  rw [BitVec.toNat_ushiftRight, Nat.shiftRight_eq_div_pow]
  exact Nat.div_eq_of_lt (Nat.lt_of_lt_of_le v.toBitVec.isLt (by decide))
theorem own_low (x : Int32) (h : (x &&& (-128 : Int32)) = 0) : x &&& (127 : Int32) = x := by
  have e : x = (x &&& (127 : Int32)) ||| (x &&& (-128 : Int32)) := by
    rw [← Int32.toBitVec_inj, Int32.toBitVec_or, Int32.toBitVec_and, Int32.toBitVec_and]
    have h1 : (-128 : Int32).toBitVec = ~~~(127 : Int32).toBitVec := by decide
    rw [h1]
    apply BitVec.eq_of_getLsbD_eq
    intro i hi
    rw [BitVec.getLsbD_or, BitVec.getLsbD_and, BitVec.getLsbD_and, BitVec.getLsbD_not]
    cases x.toBitVec.getLsbD i <;> cases (127 : Int32).toBitVec.getLsbD i <;> simp [hi]
  rw [h] at e
  have z : (x &&& (127 : Int32)) ||| 0 = (x &&& (127 : Int32)) := by
    rw [← Int32.toBitVec_inj, Int32.toBitVec_or]; exact BitVec.or_zero
  rw [z] at e
  exact e.symm
theorem own_t1 (v : Int32) : (XT.ushr v (7 : Int32)) = XT.ushr v 7 := rfl
theorem own_t2 (v : Int32) : (XT.ushr (XT.ushr v (7 : Int32)) (7 : Int32)) = XT.ushr v 14 := own_uu v 7 14 7 (by decide) (by decide)
theorem own_t3 (v : Int32) : (XT.ushr (XT.ushr (XT.ushr v (7 : Int32)) (7 : Int32)) (7 : Int32)) = XT.ushr v 21   := by rw [own_t2 v, own_uu v 14 21 14 (by decide) (by decide)]
theorem own_t4 (v : Int32) : (XT.ushr (XT.ushr (XT.ushr (XT.ushr v (7 : Int32)) (7 : Int32)) (7 : Int32)) (7 : Int32)) = XT.ushr v 28 := by rw [own_t3 v, own_uu v 21 28 21 (by decide) (by decide)]
theorem own_t0 (v : Int32) : v = XT.ushr v 0 := (own_u0 v).symm
theorem own_e1_0 (v : Int32) (h0 : (v &&& (-128 : Int32)) = 0) : v.toInt8.toInt32.toInt8.toInt32 = ((XT.ushr v (0 : Int32)) &&& (127 : Int32)).toInt8.toInt32 := by rw [own_ii, ← own_t0, own_low _ h0]
theorem own_c1_0 (v s : Int32) (h0 : (v &&& (-128 : Int32)) = 0) : f1 (0 : Int32) v s s s s s s s s s = (0 : Int32) + (1 : Int32) ∧ fok0 (0 : Int32) (1 : Int32) v s (f1_x0 (0 : Int32) v s s s s s s s s s) (f1_x1 (0 : Int32) v s s s s s s s s s) (f1_x2 (0 : Int32) v s s s s s s s s s) (f1_x3 (0 : Int32) v s s s s s s s s s) (f1_x4 (0 : Int32) v s s s s s s s s s) (f1_x5 (0 : Int32) v s s s s s s s s s) (f1_x6 (0 : Int32) v s s s s s s s s s) (f1_x7 (0 : Int32) v s s s s s s s s s) (f1_x8 (0 : Int32) v s s s s s s s s s) = 1 ∧ fok1 (0 : Int32) (1 : Int32) v s (f1_x0 (0 : Int32) v s s s s s s s s s) (f1_x1 (0 : Int32) v s s s s s s s s s) (f1_x2 (0 : Int32) v s s s s s s s s s) (f1_x3 (0 : Int32) v s s s s s s s s s) (f1_x4 (0 : Int32) v s s s s s s s s s) (f1_x5 (0 : Int32) v s s s s s s s s s) (f1_x6 (0 : Int32) v s s s s s s s s s) (f1_x7 (0 : Int32) v s s s s s s s s s) (f1_x8 (0 : Int32) v s s s s s s s s s) = 1 ∧ fok2 (0 : Int32) (1 : Int32) v s (f1_x0 (0 : Int32) v s s s s s s s s s) (f1_x1 (0 : Int32) v s s s s s s s s s) (f1_x2 (0 : Int32) v s s s s s s s s s) (f1_x3 (0 : Int32) v s s s s s s s s s) (f1_x4 (0 : Int32) v s s s s s s s s s) (f1_x5 (0 : Int32) v s s s s s s s s s) (f1_x6 (0 : Int32) v s s s s s s s s s) (f1_x7 (0 : Int32) v s s s s s s s s s) (f1_x8 (0 : Int32) v s s s s s s s s s) = 1 ∧ fok3 (0 : Int32) (1 : Int32) v s (f1_x0 (0 : Int32) v s s s s s s s s s) (f1_x1 (0 : Int32) v s s s s s s s s s) (f1_x2 (0 : Int32) v s s s s s s s s s) (f1_x3 (0 : Int32) v s s s s s s s s s) (f1_x4 (0 : Int32) v s s s s s s s s s) (f1_x5 (0 : Int32) v s s s s s s s s s) (f1_x6 (0 : Int32) v s s s s s s s s s) (f1_x7 (0 : Int32) v s s s s s s s s s) (f1_x8 (0 : Int32) v s s s s s s s s s) = 1 ∧ fok4 (0 : Int32) (1 : Int32) v s (f1_x0 (0 : Int32) v s s s s s s s s s) (f1_x1 (0 : Int32) v s s s s s s s s s) (f1_x2 (0 : Int32) v s s s s s s s s s) (f1_x3 (0 : Int32) v s s s s s s s s s) (f1_x4 (0 : Int32) v s s s s s s s s s) (f1_x5 (0 : Int32) v s s s s s s s s s) (f1_x6 (0 : Int32) v s s s s s s s s s) (f1_x7 (0 : Int32) v s s s s s s s s s) (f1_x8 (0 : Int32) v s s s s s s s s s) = 1 ∧ fok5 (0 : Int32) (1 : Int32) v s (f1_x0 (0 : Int32) v s s s s s s s s s) (f1_x1 (0 : Int32) v s s s s s s s s s) (f1_x2 (0 : Int32) v s s s s s s s s s) (f1_x3 (0 : Int32) v s s s s s s s s s) (f1_x4 (0 : Int32) v s s s s s s s s s) (f1_x5 (0 : Int32) v s s s s s s s s s) (f1_x6 (0 : Int32) v s s s s s s s s s) (f1_x7 (0 : Int32) v s s s s s s s s s) (f1_x8 (0 : Int32) v s s s s s s s s s) = 1 ∧ fok6 (0 : Int32) (1 : Int32) v s (f1_x0 (0 : Int32) v s s s s s s s s s) (f1_x1 (0 : Int32) v s s s s s s s s s) (f1_x2 (0 : Int32) v s s s s s s s s s) (f1_x3 (0 : Int32) v s s s s s s s s s) (f1_x4 (0 : Int32) v s s s s s s s s s) (f1_x5 (0 : Int32) v s s s s s s s s s) (f1_x6 (0 : Int32) v s s s s s s s s s) (f1_x7 (0 : Int32) v s s s s s s s s s) (f1_x8 (0 : Int32) v s s s s s s s s s) = 1 ∧ fok7 (0 : Int32) (1 : Int32) v s (f1_x0 (0 : Int32) v s s s s s s s s s) (f1_x1 (0 : Int32) v s s s s s s s s s) (f1_x2 (0 : Int32) v s s s s s s s s s) (f1_x3 (0 : Int32) v s s s s s s s s s) (f1_x4 (0 : Int32) v s s s s s s s s s) (f1_x5 (0 : Int32) v s s s s s s s s s) (f1_x6 (0 : Int32) v s s s s s s s s s) (f1_x7 (0 : Int32) v s s s s s s s s s) (f1_x8 (0 : Int32) v s s s s s s s s s) = 1 ∧ fok8 (0 : Int32) (1 : Int32) v s (f1_x0 (0 : Int32) v s s s s s s s s s) (f1_x1 (0 : Int32) v s s s s s s s s s) (f1_x2 (0 : Int32) v s s s s s s s s s) (f1_x3 (0 : Int32) v s s s s s s s s s) (f1_x4 (0 : Int32) v s s s s s s s s s) (f1_x5 (0 : Int32) v s s s s s s s s s) (f1_x6 (0 : Int32) v s s s s s s s s s) (f1_x7 (0 : Int32) v s s s s s s s s s) (f1_x8 (0 : Int32) v s s s s s s s s s) = 1 := by
  have x0 : f1_x0 (0 : Int32) v s s s s s s s s s = v.toInt8.toInt32.toInt8.toInt32 := by simp only [f1_x0, if_pos h0]; rfl
  have x1 : f1_x1 (0 : Int32) v s s s s s s s s s = s := by simp only [f1_x1, if_pos h0]; rfl
  have x2 : f1_x2 (0 : Int32) v s s s s s s s s s = s := by simp only [f1_x2, if_pos h0]; rfl
  have x3 : f1_x3 (0 : Int32) v s s s s s s s s s = s := by simp only [f1_x3, if_pos h0]; rfl
  have x4 : f1_x4 (0 : Int32) v s s s s s s s s s = s := by simp only [f1_x4, if_pos h0]; rfl
  have x5 : f1_x5 (0 : Int32) v s s s s s s s s s = s := by simp only [f1_x5, if_pos h0]; rfl
  have x6 : f1_x6 (0 : Int32) v s s s s s s s s s = s := by simp only [f1_x6, if_pos h0]; rfl
  have x7 : f1_x7 (0 : Int32) v s s s s s s s s s = s := by simp only [f1_x7, if_pos h0]; rfl
  have x8 : f1_x8 (0 : Int32) v s s s s s s s s s = s := by simp only [f1_x8, if_pos h0]; rfl
  rw [x0, x1, x2, x3, x4, x5, x6, x7, x8]
  refine ⟨by simp only [f1, if_pos h0]; try rfl, ?_, ?_, ?_, ?_, ?_, ?_, ?_, ?_, ?_⟩
  · exact (show fok0 (0 : Int32) (1 : Int32) v s (v.toInt8.toInt32.toInt8.toInt32) (s) (s) (s) (s) (s) (s) (s) (s) = ((if v.toInt8.toInt32.toInt8.toInt32 = ((XT.ushr v (0 : Int32)) &&& (127 : Int32)).toInt8.toInt32 then (1 : Int32) else (0 : Int32)) &&& 1) from rfl).trans (by rw [if_pos (own_e1_0 v h0)]; rfl)
  · exact (show fok1 (0 : Int32) (1 : Int32) v s (v.toInt8.toInt32.toInt8.toInt32) (s) (s) (s) (s) (s) (s) (s) (s) = ((if s = s then (1 : Int32) else (0 : Int32)) &&& 1) from rfl).trans (by rw [if_pos rfl]; rfl)
  · exact (show fok2 (0 : Int32) (1 : Int32) v s (v.toInt8.toInt32.toInt8.toInt32) (s) (s) (s) (s) (s) (s) (s) (s) = ((if s = s then (1 : Int32) else (0 : Int32)) &&& 1) from rfl).trans (by rw [if_pos rfl]; rfl)
  · exact (show fok3 (0 : Int32) (1 : Int32) v s (v.toInt8.toInt32.toInt8.toInt32) (s) (s) (s) (s) (s) (s) (s) (s) = ((if s = s then (1 : Int32) else (0 : Int32)) &&& 1) from rfl).trans (by rw [if_pos rfl]; rfl)
  · exact (show fok4 (0 : Int32) (1 : Int32) v s (v.toInt8.toInt32.toInt8.toInt32) (s) (s) (s) (s) (s) (s) (s) (s) = ((if s = s then (1 : Int32) else (0 : Int32)) &&& 1) from rfl).trans (by rw [if_pos rfl]; rfl)
  · exact (show fok5 (0 : Int32) (1 : Int32) v s (v.toInt8.toInt32.toInt8.toInt32) (s) (s) (s) (s) (s) (s) (s) (s) = ((if s = s then (1 : Int32) else (0 : Int32)) &&& 1) from rfl).trans (by rw [if_pos rfl]; rfl)
  · exact (show fok6 (0 : Int32) (1 : Int32) v s (v.toInt8.toInt32.toInt8.toInt32) (s) (s) (s) (s) (s) (s) (s) (s) = ((if s = s then (1 : Int32) else (0 : Int32)) &&& 1) from rfl).trans (by rw [if_pos rfl]; rfl)
  · exact (show fok7 (0 : Int32) (1 : Int32) v s (v.toInt8.toInt32.toInt8.toInt32) (s) (s) (s) (s) (s) (s) (s) (s) = ((if s = s then (1 : Int32) else (0 : Int32)) &&& 1) from rfl).trans (by rw [if_pos rfl]; rfl)
  · exact (show fok8 (0 : Int32) (1 : Int32) v s (v.toInt8.toInt32.toInt8.toInt32) (s) (s) (s) (s) (s) (s) (s) (s) = ((if s = s then (1 : Int32) else (0 : Int32)) &&& 1) from rfl).trans (by rw [if_pos rfl]; rfl)
theorem own_c1_1 (v s : Int32) (h0 : (v &&& (-128 : Int32)) = 0) : f1 (1 : Int32) v s s s s s s s s s = (1 : Int32) + (1 : Int32) ∧ fok0 (1 : Int32) (1 : Int32) v s (f1_x0 (1 : Int32) v s s s s s s s s s) (f1_x1 (1 : Int32) v s s s s s s s s s) (f1_x2 (1 : Int32) v s s s s s s s s s) (f1_x3 (1 : Int32) v s s s s s s s s s) (f1_x4 (1 : Int32) v s s s s s s s s s) (f1_x5 (1 : Int32) v s s s s s s s s s) (f1_x6 (1 : Int32) v s s s s s s s s s) (f1_x7 (1 : Int32) v s s s s s s s s s) (f1_x8 (1 : Int32) v s s s s s s s s s) = 1 ∧ fok1 (1 : Int32) (1 : Int32) v s (f1_x0 (1 : Int32) v s s s s s s s s s) (f1_x1 (1 : Int32) v s s s s s s s s s) (f1_x2 (1 : Int32) v s s s s s s s s s) (f1_x3 (1 : Int32) v s s s s s s s s s) (f1_x4 (1 : Int32) v s s s s s s s s s) (f1_x5 (1 : Int32) v s s s s s s s s s) (f1_x6 (1 : Int32) v s s s s s s s s s) (f1_x7 (1 : Int32) v s s s s s s s s s) (f1_x8 (1 : Int32) v s s s s s s s s s) = 1 ∧ fok2 (1 : Int32) (1 : Int32) v s (f1_x0 (1 : Int32) v s s s s s s s s s) (f1_x1 (1 : Int32) v s s s s s s s s s) (f1_x2 (1 : Int32) v s s s s s s s s s) (f1_x3 (1 : Int32) v s s s s s s s s s) (f1_x4 (1 : Int32) v s s s s s s s s s) (f1_x5 (1 : Int32) v s s s s s s s s s) (f1_x6 (1 : Int32) v s s s s s s s s s) (f1_x7 (1 : Int32) v s s s s s s s s s) (f1_x8 (1 : Int32) v s s s s s s s s s) = 1 ∧ fok3 (1 : Int32) (1 : Int32) v s (f1_x0 (1 : Int32) v s s s s s s s s s) (f1_x1 (1 : Int32) v s s s s s s s s s) (f1_x2 (1 : Int32) v s s s s s s s s s) (f1_x3 (1 : Int32) v s s s s s s s s s) (f1_x4 (1 : Int32) v s s s s s s s s s) (f1_x5 (1 : Int32) v s s s s s s s s s) (f1_x6 (1 : Int32) v s s s s s s s s s) (f1_x7 (1 : Int32) v s s s s s s s s s) (f1_x8 (1 : Int32) v s s s s s s s s s) = 1 ∧ fok4 (1 : Int32) (1 : Int32) v s (f1_x0 (1 : Int32) v s s s s s s s s s) (f1_x1 (1 : Int32) v s s s s s s s s s) (f1_x2 (1 : Int32) v s s s s s s s s s) (f1_x3 (1 : Int32) v s s s s s s s s s) (f1_x4 (1 : Int32) v s s s s s s s s s) (f1_x5 (1 : Int32) v s s s s s s s s s) (f1_x6 (1 : Int32) v s s s s s s s s s) (f1_x7 (1 : Int32) v s s s s s s s s s) (f1_x8 (1 : Int32) v s s s s s s s s s) = 1 ∧ fok5 (1 : Int32) (1 : Int32) v s (f1_x0 (1 : Int32) v s s s s s s s s s) (f1_x1 (1 : Int32) v s s s s s s s s s) (f1_x2 (1 : Int32) v s s s s s s s s s) (f1_x3 (1 : Int32) v s s s s s s s s s) (f1_x4 (1 : Int32) v s s s s s s s s s) (f1_x5 (1 : Int32) v s s s s s s s s s) (f1_x6 (1 : Int32) v s s s s s s s s s) (f1_x7 (1 : Int32) v s s s s s s s s s) (f1_x8 (1 : Int32) v s s s s s s s s s) = 1 ∧ fok6 (1 : Int32) (1 : Int32) v s (f1_x0 (1 : Int32) v s s s s s s s s s) (f1_x1 (1 : Int32) v s s s s s s s s s) (f1_x2 (1 : Int32) v s s s s s s s s s) (f1_x3 (1 : Int32) v s s s s s s s s s) (f1_x4 (1 : Int32) v s s s s s s s s s) (f1_x5 (1 : Int32) v s s s s s s s s s) (f1_x6 (1 : Int32) v s s s s s s s s s) (f1_x7 (1 : Int32) v s s s s s s s s s) (f1_x8 (1 : Int32) v s s s s s s s s s) = 1 ∧ fok7 (1 : Int32) (1 : Int32) v s (f1_x0 (1 : Int32) v s s s s s s s s s) (f1_x1 (1 : Int32) v s s s s s s s s s) (f1_x2 (1 : Int32) v s s s s s s s s s) (f1_x3 (1 : Int32) v s s s s s s s s s) (f1_x4 (1 : Int32) v s s s s s s s s s) (f1_x5 (1 : Int32) v s s s s s s s s s) (f1_x6 (1 : Int32) v s s s s s s s s s) (f1_x7 (1 : Int32) v s s s s s s s s s) (f1_x8 (1 : Int32) v s s s s s s s s s) = 1 ∧ fok8 (1 : Int32) (1 : Int32) v s (f1_x0 (1 : Int32) v s s s s s s s s s) (f1_x1 (1 : Int32) v s s s s s s s s s) (f1_x2 (1 : Int32) v s s s s s s s s s) (f1_x3 (1 : Int32) v s s s s s s s s s) (f1_x4 (1 : Int32) v s s s s s s s s s) (f1_x5 (1 : Int32) v s s s s s s s s s) (f1_x6 (1 : Int32) v s s s s s s s s s) (f1_x7 (1 : Int32) v s s s s s s s s s) (f1_x8 (1 : Int32) v s s s s s s s s s) = 1 := by
  have x0 : f1_x0 (1 : Int32) v s s s s s s s s s = s := by simp only [f1_x0, if_pos h0]; rfl
  have x1 : f1_x1 (1 : Int32) v s s s s s s s s s = v.toInt8.toInt32.toInt8.toInt32 := by simp only [f1_x1, if_pos h0]; rfl
  have x2 : f1_x2 (1 : Int32) v s s s s s s s s s = s := by simp only [f1_x2, if_pos h0]; rfl
  have x3 : f1_x3 (1 : Int32) v s s s s s s s s s = s := by simp only [f1_x3, if_pos h0]; rfl
  have x4 : f1_x4 (1 : Int32) v s s s s s s s s s = s := by simp only [f1_x4, if_pos h0]; rfl
  have x5 : f1_x5 (1 : Int32) v s s s s s s s s s = s := by simp only [f1_x5, if_pos h0]; rfl
  have x6 : f1_x6 (1 : Int32) v s s s s s s s s s = s := by simp only [f1_x6, if_pos h0]; rfl
  have x7 : f1_x7 (1 : Int32) v s s s s s s s s s = s := by simp only [f1_x7, if_pos h0]; rfl
  have x8 : f1_x8 (1 : Int32) v s s s s s s s s s = s := by simp only [f1_x8, if_pos h0]; rfl
  rw [x0, x1, x2, x3, x4, x5, x6, x7, x8]
  refine ⟨by simp only [f1, if_pos h0]; try rfl, ?_, ?_, ?_, ?_, ?_, ?_, ?_, ?_, ?_⟩
  · exact (show fok0 (1 : Int32) (1 : Int32) v s (s) (v.toInt8.toInt32.toInt8.toInt32) (s) (s) (s) (s) (s) (s) (s) = ((if s = s then (1 : Int32) else (0 : Int32)) &&& 1) from rfl).trans (by rw [if_pos rfl]; rfl)
  · exact (show fok1 (1 : Int32) (1 : Int32) v s (s) (v.toInt8.toInt32.toInt8.toInt32) (s) (s) (s) (s) (s) (s) (s) = ((if v.toInt8.toInt32.toInt8.toInt32 = ((XT.ushr v (0 : Int32)) &&& (127 : Int32)).toInt8.toInt32 then (1 : Int32) else (0 : Int32)) &&& 1) from rfl).trans (by rw [if_pos (own_e1_0 v h0)]; rfl)
  · exact (show fok2 (1 : Int32) (1 : Int32) v s (s) (v.toInt8.toInt32.toInt8.toInt32) (s) (s) (s) (s) (s) (s) (s) = ((if s = s then (1 : Int32) else (0 : Int32)) &&& 1) from rfl).trans (by rw [if_pos rfl]; rfl)
  · exact (show fok3 (1 : Int32) (1 : Int32) v s (s) (v.toInt8.toInt32.toInt8.toInt32) (s) (s) (s) (s) (s) (s) (s) = ((if s = s then (1 : Int32) else (0 : Int32)) &&& 1) from rfl).trans (by rw [if_pos rfl]; rfl)
  · exact (show fok4 (1 : Int32) (1 : Int32) v s (s) (v.toInt8.toInt32.toInt8.toInt32) (s) (s) (s) (s) (s) (s) (s) = ((if s = s then (1 : Int32) else (0 : Int32)) &&& 1) from rfl).trans (by rw [if_pos rfl]; rfl)
  · exact (show fok5 (1 : Int32) (1 : Int32) v s (s) (v.toInt8.toInt32.toInt8.toInt32) (s) (s) (s) (s) (s) (s) (s) = ((if s = s then (1 : Int32) else (0 : Int32)) &&& 1) from rfl).trans (by rw [if_pos rfl]; rfl)
  · exact (show fok6 (1 : Int32) (1 : Int32) v s (s) (v.toInt8.toInt32.toInt8.toInt32) (s) (s) (s) (s) (s) (s) (s) = ((if s = s then (1 : Int32) else (0 : Int32)) &&& 1) from rfl).trans (by rw [if_pos rfl]; rfl)
  · exact (show fok7 (1 : Int32) (1 : Int32) v s (s) (v.toInt8.toInt32.toInt8.toInt32) (s) (s) (s) (s) (s) (s) (s) = ((if s = s then (1 : Int32) else (0 : Int32)) &&& 1) from rfl).trans (by rw [if_pos rfl]; rfl)
  · exact (show fok8 (1 : Int32) (1 : Int32) v s (s) (v.toInt8.toInt32.toInt8.toInt32) (s) (s) (s) (s) (s) (s) (s) = ((if s = s then (1 : Int32) else (0 : Int32)) &&& 1) from rfl).trans (by rw [if_pos rfl]; rfl)
theorem own_c1_2 (v s : Int32) (h0 : (v &&& (-128 : Int32)) = 0) : f1 (2 : Int32) v s s s s s s s s s = (2 : Int32) + (1 : Int32) ∧ fok0 (2 : Int32) (1 : Int32) v s (f1_x0 (2 : Int32) v s s s s s s s s s) (f1_x1 (2 : Int32) v s s s s s s s s s) (f1_x2 (2 : Int32) v s s s s s s s s s) (f1_x3 (2 : Int32) v s s s s s s s s s) (f1_x4 (2 : Int32) v s s s s s s s s s) (f1_x5 (2 : Int32) v s s s s s s s s s) (f1_x6 (2 : Int32) v s s s s s s s s s) (f1_x7 (2 : Int32) v s s s s s s s s s) (f1_x8 (2 : Int32) v s s s s s s s s s) = 1 ∧ fok1 (2 : Int32) (1 : Int32) v s (f1_x0 (2 : Int32) v s s s s s s s s s) (f1_x1 (2 : Int32) v s s s s s s s s s) (f1_x2 (2 : Int32) v s s s s s s s s s) (f1_x3 (2 : Int32) v s s s s s s s s s) (f1_x4 (2 : Int32) v s s s s s s s s s) (f1_x5 (2 : Int32) v s s s s s s s s s) (f1_x6 (2 : Int32) v s s s s s s s s s) (f1_x7 (2 : Int32) v s s s s s s s s s) (f1_x8 (2 : Int32) v s s s s s s s s s) = 1 ∧ fok2 (2 : Int32) (1 : Int32) v s (f1_x0 (2 : Int32) v s s s s s s s s s) (f1_x1 (2 : Int32) v s s s s s s s s s) (f1_x2 (2 : Int32) v s s s s s s s s s) (f1_x3 (2 : Int32) v s s s s s s s s s) (f1_x4 (2 : Int32) v s s s s s s s s s) (f1_x5 (2 : Int32) v s s s s s s s s s) (f1_x6 (2 : Int32) v s s s s s s s s s) (f1_x7 (2 : Int32) v s s s s s s s s s) (f1_x8 (2 : Int32) v s s s s s s s s s) = 1 ∧ fok3 (2 : Int32) (1 : Int32) v s (f1_x0 (2 : Int32) v s s s s s s s s s) (f1_x1 (2 : Int32) v s s s s s s s s s) (f1_x2 (2 : Int32) v s s s s s s s s s) (f1_x3 (2 : Int32) v s s s s s s s s s) (f1_x4 (2 : Int32) v s s s s s s s s s) (f1_x5 (2 : Int32) v s s s s s s s s s) (f1_x6 (2 : Int32) v s s s s s s s s s) (f1_x7 (2 : Int32) v s s s s s s s s s) (f1_x8 (2 : Int32) v s s s s s s s s s) = 1 ∧ fok4 (2 : Int32) (1 : Int32) v s (f1_x0 (2 : Int32) v s s s s s s s s s) (f1_x1 (2 : Int32) v s s s s s s s s s) (f1_x2 (2 : Int32) v s s s s s s s s s) (f1_x3 (2 : Int32) v s s s s s s s s s) (f1_x4 (2 : Int32) v s s s s s s s s s) (f1_x5 (2 : Int32) v s s s s s s s s s) (f1_x6 (2 : Int32) v s s s s s s s s s) (f1_x7 (2 : Int32) v s s s s s s s s s) (f1_x8 (2 : Int32) v s s s s s s s s s) = 1 ∧ fok5 (2 : Int32) (1 : Int32) v s (f1_x0 (2 : Int32) v s s s s s s s s s) (f1_x1 (2 : Int32) v s s s s s s s s s) (f1_x2 (2 : Int32) v s s s s s s s s s) (f1_x3 (2 : Int32) v s s s s s s s s s) (f1_x4 (2 : Int32) v s s s s s s s s s) (f1_x5 (2 : Int32) v s s s s s s s s s) (f1_x6 (2 : Int32) v s s s s s s s s s) (f1_x7 (2 : Int32) v s s s s s s s s s) (f1_x8 (2 : Int32) v s s s s s s s s s) = 1 ∧ fok6 (2 : Int32) (1 : Int32) v s (f1_x0 (2 : Int32) v s s s s s s s s s) (f1_x1 (2 : Int32) v s s s s s s s s s) (f1_x2 (2 : Int32) v s s s s s s s s s) (f1_x3 (2 : Int32) v s s s s s s s s s) (f1_x4 (2 : Int32) v s s s s s s s s s) (f1_x5 (2 : Int32) v s s s s s s s s s) (f1_x6 (2 : Int32) v s s s s s s s s s) (f1_x7 (2 : Int32) v s s s s s s s s s) (f1_x8 (2 : Int32) v s s s s s s s s s) = 1 ∧ fok7 (2 : Int32) (1 : Int32) v s (f1_x0 (2 : Int32) v s s s s s s s s s) (f1_x1 (2 : Int32) v s s s s s s s s s) (f1_x2 (2 : Int32) v s s s s s s s s s) (f1_x3 (2 : Int32) v s s s s s s s s s) (f1_x4 (2 : Int32) v s s s s s s s s s) (f1_x5 (2 : Int32) v s s s s s s s s s) (f1_x6 (2 : Int32) v s s s s s s s s s) (f1_x7 (2 : Int32) v s s s s s s s s s) (f1_x8 (2 : Int32) v s s s s s s s s s) = 1 ∧ fok8 (2 : Int32) (1 : Int32) v s (f1_x0 (2 : Int32) v s s s s s s s s s) (f1_x1 (2 : Int32) v s s s s s s s s s) (f1_x2 (2 : Int32) v s s s s s s s s s) (f1_x3 (2 : Int32) v s s s s s s s s s) (f1_x4 (2 : Int32) v s s s s s s s s s) (f1_x5 (2 : Int32) v s s s s s s s s s) (f1_x6 (2 : Int32) v s s s s s s s s s) (f1_x7 (2 : Int32) v s s s s s s s s s) (f1_x8 (2 : Int32) v s s s s s s s s s) = 1 := by
  have x0 : f1_x0 (2 : Int32) v s s s s s s s s s = s := by simp only [f1_x0, if_pos h0]; rfl
  have x1 : f1_x1 (2 : Int32) v s s s s s s s s s = s := by simp only [f1_x1, if_pos h0]; rfl
  have x2 : f1_x2 (2 : Int32) v s s s s s s s s s = v.toInt8.toInt32.toInt8.toInt32 := by simp only [f1_x2, if_pos h0]; rfl
  have x3 : f1_x3 (2 : Int32) v s s s s s s s s s = s := by simp only [f1_x3, if_pos h0]; rfl
  have x4 : f1_x4 (2 : Int32) v s s s s s s s s s = s := by simp only [f1_x4, if_pos h0]; rfl
  have x5 : f1_x5 (2 : Int32) v s s s s s s s s s = s := by simp only [f1_x5, if_pos h0]; rfl
  have x6 : f1_x6 (2 : Int32) v s s s s s s s s s = s := by simp only [f1_x6, if_pos h0]; rfl
  have x7 : f1_x7 (2 : Int32) v s s s s s s s s s = s := by simp only [f1_x7, if_pos h0]; rfl
  have x8 : f1_x8 (2 : Int32) v s s s s s s s s s = s := by simp only [f1_x8, if_pos h0]; rfl
  rw [x0, x1, x2, x3, x4, x5, x6, x7, x8]
  refine ⟨by simp only [f1, if_pos h0]; try rfl, ?_, ?_, ?_, ?_, ?_, ?_, ?_, ?_, ?_⟩
  · exact (show fok0 (2 : Int32) (1 : Int32) v s (s) (s) (v.toInt8.toInt32.toInt8.toInt32) (s) (s) (s) (s) (s) (s) = ((if s = s then (1 : Int32) else (0 : Int32)) &&& 1) from rfl).trans (by rw [if_pos rfl]; rfl)
  · exact (show fok1 (2 : Int32) (1 : Int32) v s (s) (s) (v.toInt8.toInt32.toInt8.toInt32) (s) (s) (s) (s) (s) (s) = ((if s = s then (1 : Int32) else (0 : Int32)) &&& 1) from rfl).trans (by rw [if_pos rfl]; rfl)
  · exact (show fok2 (2 : Int32) (1 : Int32) v s (s) (s) (v.toInt8.toInt32.toInt8.toInt32) (s) (s) (s) (s) (s) (s) = ((if v.toInt8.toInt32.toInt8.toInt32 = ((XT.ushr v (0 : Int32)) &&& (127 : Int32)).toInt8.toInt32 then (1 : Int32) else (0 : Int32)) &&& 1) from rfl).trans (by rw [if_pos (own_e1_0 v h0)]; rfl)
  · exact (show fok3 (2 : Int32) (1 : Int32) v s (s) (s) (v.toInt8.toInt32.toInt8.toInt32) (s) (s) (s) (s) (s) (s) = ((if s = s then (1 : Int32) else (0 : Int32)) &&& 1) from rfl).trans (by rw [if_pos rfl]; rfl)
  · exact (show fok4 (2 : Int32) (1 : Int32) v s (s) (s) (v.toInt8.toInt32.toInt8.toInt32) (s) (s) (s) (s) (s) (s) = ((if s = s then (1 : Int32) else (0 : Int32)) &&& 1) from rfl).trans (by rw [if_pos rfl]; rfl)
  · exact (show fok5 (2 : Int32) (1 : Int32) v s (s) (s) (v.toInt8.toInt32.toInt8.toInt32) (s) (s) (s) (s) (s) (s) = ((if s = s then (1 : Int32) else (0 : Int32)) &&& 1) from rfl).trans (by rw [if_pos rfl]; rfl)
  · exact (show fok6 (2 : Int32) (1 : Int32) v s (s) (s) (v.toInt8.toInt32.toInt8.toInt32) (s) (s) (s) (s) (s) (s) = ((if s = s then (1 : Int32) else (0 : Int32)) &&& 1) from rfl).trans (by rw [if_pos rfl]; rfl)
  · exact (show fok7 (2 : Int32) (1 : Int32) v s (s) (s) (v.toInt8.toInt32.toInt8.toInt32) (s) (s) (s) (s) (s) (s) = ((if s = s then (1 : Int32) else (0 : Int32)) &&& 1) from rfl).trans (by rw [if_pos rfl]; rfl)
  · exact (show fok8 (2 : Int32) (1 : Int32) v s (s) (s) (v.toInt8.toInt32.toInt8.toInt32) (s) (s) (s) (s) (s) (s) = ((if s = s then (1 : Int32) else (0 : Int32)) &&& 1) from rfl).trans (by rw [if_pos rfl]; rfl)
theorem own_c1_3 (v s : Int32) (h0 : (v &&& (-128 : Int32)) = 0) : f1 (3 : Int32) v s s s s s s s s s = (3 : Int32) + (1 : Int32) ∧ fok0 (3 : Int32) (1 : Int32) v s (f1_x0 (3 : Int32) v s s s s s s s s s) (f1_x1 (3 : Int32) v s s s s s s s s s) (f1_x2 (3 : Int32) v s s s s s s s s s) (f1_x3 (3 : Int32) v s s s s s s s s s) (f1_x4 (3 : Int32) v s s s s s s s s s) (f1_x5 (3 : Int32) v s s s s s s s s s) (f1_x6 (3 : Int32) v s s s s s s s s s) (f1_x7 (3 : Int32) v s s s s s s s s s) (f1_x8 (3 : Int32) v s s s s s s s s s) = 1 ∧ fok1 (3 : Int32) (1 : Int32) v s (f1_x0 (3 : Int32) v s s s s s s s s s) (f1_x1 (3 : Int32) v s s s s s s s s s) (f1_x2 (3 : Int32) v s s s s s s s s s) (f1_x3 (3 : Int32) v s s s s s s s s s) (f1_x4 (3 : Int32) v s s s s s s s s s) (f1_x5 (3 : Int32) v s s s s s s s s s) (f1_x6 (3 : Int32) v s s s s s s s s s) (f1_x7 (3 : Int32) v s s s s s s s s s) (f1_x8 (3 : Int32) v s s s s s s s s s) = 1 ∧ fok2 (3 : Int32) (1 : Int32) v s (f1_x0 (3 : Int32) v s s s s s s s s s) (f1_x1 (3 : Int32) v s s s s s s s s s) (f1_x2 (3 : Int32) v s s s s s s s s s) (f1_x3 (3 : Int32) v s s s s s s s s s) (f1_x4 (3 : Int32) v s s s s s s s s s) (f1_x5 (3 : Int32) v s s s s s s s s s) (f1_x6 (3 : Int32) v s s s s s s s s s) (f1_x7 (3 : Int32) v s s s s s s s s s) (f1_x8 (3 : Int32) v s s s s s s s s s) = 1 ∧ fok3 (3 : Int32) (1 : Int32) v s (f1_x0 (3 : Int32) v s s s s s s s s s) (f1_x1 (3 : Int32) v s s s s s s s s s) (f1_x2 (3 : Int32) v s s s s s s s s s) (f1_x3 (3 : Int32) v s s s s s s s s s) (f1_x4 (3 : Int32) v s s s s s s s s s) (f1_x5 (3 : Int32) v s s s s s s s s s) (f1_x6 (3 : Int32) v s s s s s s s s s) (f1_x7 (3 : Int32) v s s s s s s s s s) (f1_x8 (3 : Int32) v s s s s s s s s s) = 1 ∧ fok4 (3 : Int32) (1 : Int32) v s (f1_x0 (3 : Int32) v s s s s s s s s s) (f1_x1 (3 : Int32) v s s s s s s s s s) (f1_x2 (3 : Int32) v s s s s s s s s s) (f1_x3 (3 : Int32) v s s s s s s s s s) (f1_x4 (3 : Int32) v s s s s s s s s s) (f1_x5 (3 : Int32) v s s s s s s s s s) (f1_x6 (3 : Int32) v s s s s s s s s s) (f1_x7 (3 : Int32) v s s s s s s s s s) (f1_x8 (3 : Int32) v s s s s s s s s s) = 1 ∧ fok5 (3 : Int32) (1 : Int32) v s (f1_x0 (3 : Int32) v s s s s s s s s s) (f1_x1 (3 : Int32) v s s s s s s s s s) (f1_x2 (3 : Int32) v s s s s s s s s s) (f1_x3 (3 : Int32) v s s s s s s s s s) (f1_x4 (3 : Int32) v s s s s s s s s s) (f1_x5 (3 : Int32) v s s s s s s s s s) (f1_x6 (3 : Int32) v s s s s s s s s s) (f1_x7 (3 : Int32) v s s s s s s s s s) (f1_x8 (3 : Int32) v s s s s s s s s s) = 1 ∧ fok6 (3 : Int32) (1 : Int32) v s (f1_x0 (3 : Int32) v s s s s s s s s s) (f1_x1 (3 : Int32) v s s s s s s s s s) (f1_x2 (3 : Int32) v s s s s s s s s s) (f1_x3 (3 : Int32) v s s s s s s s s s) (f1_x4 (3 : Int32) v s s s s s s s s s) (f1_x5 (3 : Int32) v s s s s s s s s s) (f1_x6 (3 : Int32) v s s s s s s s s s) (f1_x7 (3 : Int32) v s s s s s s s s s) (f1_x8 (3 : Int32) v s s s s s s s s s) = 1 ∧ fok7 (3 : Int32) (1 : Int32) v s (f1_x0 (3 : Int32) v s s s s s s s s s) (f1_x1 (3 : Int32) v s s s s s s s s s) (f1_x2 (3 : Int32) v s s s s s s s s s) (f1_x3 (3 : Int32) v s s s s s s s s s) (f1_x4 (3 : Int32) v s s s s s s s s s) (f1_x5 (3 : Int32) v s s s s s s s s s) (f1_x6 (3 : Int32) v s s s s s s s s s) (f1_x7 (3 : Int32) v s s s s s s s s s) (f1_x8 (3 : Int32) v s s s s s s s s s) = 1 ∧ fok8 (3 : Int32) (1 : Int32) v s (f1_x0 (3 : Int32) v s s s s s s s s s) (f1_x1 (3 : Int32) v s s s s s s s s s) (f1_x2 (3 : Int32) v s s s s s s s s s) (f1_x3 (3 : Int32) v s s s s s s s s s) (f1_x4 (3 : Int32) v s s s s s s s s s) (f1_x5 (3 : Int32) v s s s s s s s s s) (f1_x6 (3 : Int32) v s s s s s s s s s) (f1_x7 (3 : Int32) v s s s s s s s s s) (f1_x8 (3 : Int32) v s s s s s s s s s) = 1 := by
  have x0 : f1_x0 (3 : Int32) v s s s s s s s s s = s := by simp only [f1_x0, if_pos h0]; rfl
  have x1 : f1_x1 (3 : Int32) v s s s s s s s s s = s := by simp only [f1_x1, if_pos h0]; rfl
  have x2 : f1_x2 (3 : Int32) v s s s s s s s s s = s := by simp only [f1_x2, if_pos h0]; rfl
  have x3 : f1_x3 (3 : Int32) v s s s s s s s s s = v.toInt8.toInt32.toInt8.toInt32 := by simp only [f1_x3, if_pos h0]; rfl
  have x4 : f1_x4 (3 : Int32) v s s s s s s s s s = s := by simp only [f1_x4, if_pos h0]; rfl
  have x5 : f1_x5 (3 : Int32) v s s s s s s s s s = s := by simp only [f1_x5, if_pos h0]; rfl
  have x6 : f1_x6 (3 : Int32) v s s s s s s s s s = s := by simp only [f1_x6, if_pos h0]; rfl
  have x7 : f1_x7 (3 : Int32) v s s s s s s s s s = s := by simp only [f1_x7, if_pos h0]; rfl
  have x8 : f1_x8 (3 : Int32) v s s s s s s s s s = s := by simp only [f1_x8, if_pos h0]; rfl
  rw [x0, x1, x2, x3, x4, x5, x6, x7, x8]
  refine ⟨by simp only [f1, if_pos h0]; try rfl, ?_, ?_, ?_, ?_, ?_, ?_, ?_, ?_, ?_⟩
  · exact (show fok0 (3 : Int32) (1 : Int32) v s (s) (s) (s) (v.toInt8.toInt32.toInt8.toInt32) (s) (s) (s) (s) (s) = ((if s = s then (1 : Int32) else (0 : Int32)) &&& 1) from rfl).trans (by rw [if_pos rfl]; rfl)
  · exact (show fok1 (3 : Int32) (1 : Int32) v s (s) (s) (s) (v.toInt8.toInt32.toInt8.toInt32) (s) (s) (s) (s) (s) = ((if s = s then (1 : Int32) else (0 : Int32)) &&& 1) from rfl).trans (by rw [if_pos rfl]; rfl)
  · exact (show fok2 (3 : Int32) (1 : Int32) v s (s) (s) (s) (v.toInt8.toInt32.toInt8.toInt32) (s) (s) (s) (s) (s) = ((if s = s then (1 : Int32) else (0 : Int32)) &&& 1) from rfl).trans (by rw [if_pos rfl]; rfl)
  · exact (show fok3 (3 : Int32) (1 : Int32) v s (s) (s) (s) (v.toInt8.toInt32.toInt8.toInt32) (s) (s) (s) (s) (s) = ((if v.toInt8.toInt32.toInt8.toInt32 = ((XT.ushr v (0 : Int32)) &&& (127 : Int32)).toInt8.toInt32 then (1 : Int32) else (0 : Int32)) &&& 1) from rfl).trans (by rw [if_pos (own_e1_0 v h0)]; rfl)
  · exact (show fok4 (3 : Int32) (1 : Int32) v s (s) (s) (s) (v.toInt8.toInt32.toInt8.toInt32) (s) (s) (s) (s) (s) = ((if s = s then (1 : Int32) else (0 : Int32)) &&& 1) from rfl).trans (by rw [if_pos rfl]; rfl)
  · exact (show fok5 (3 : Int32) (1 : Int32) v s (s) (s) (s) (v.toInt8.toInt32.toInt8.toInt32) (s) (s) (s) (s) (s) = ((if s = s then (1 : Int32) else (0 : Int32)) &&& 1) from rfl).trans (by rw [if_pos rfl]; rfl)
  · exact (show fok6 (3 : Int32) (1 : Int32) v s (s) (s) (s) (v.toInt8.toInt32.toInt8.toInt32) (s) (s) (s) (s) (s) = ((if s = s then (1 : Int32) else (0 : Int32)) &&& 1) from rfl).trans (by rw [if_pos rfl]; rfl)
  · exact (show fok7 (3 : Int32) (1 : Int32) v s (s) (s) (s) (v.toInt8.toInt32.toInt8.toInt32) (s) (s) (s) (s) (s) = ((if s = s then (1 : Int32) else (0 : Int32)) &&& 1) from rfl).trans (by rw [if_pos rfl]; rfl)
  · exact (show fok8 (3 : Int32) (1 : Int32) v s (s) (s) (s) (v.toInt8.toInt32.toInt8.toInt32) (s) (s) (s) (s) (s) = ((if s = s then (1 : Int32) else (0 : Int32)) &&& 1) from rfl).trans (by rw [if_pos rfl]; rfl)
theorem own_e2_0 (v : Int32) : ((v &&& (127 : Int32)) ||| (128 : Int32)).toInt8.toInt32.toInt8.toInt32 = (((XT.ushr v (0 : Int32)) &&& (127 : Int32)) ||| (128 : Int32)).toInt8.toInt32 := by rw [own_ii, ← own_t0]
theorem own_e2_1 (v : Int32) (h1 : ((XT.ushr v (7 : Int32)) &&& (-128 : Int32)) = 0) : (XT.ushr v (7 : Int32)).toInt8.toInt32.toInt8.toInt32 = ((XT.ushr v (7 : Int32)) &&& (127 : Int32)).toInt8.toInt32 := by rw [own_ii, ← own_t1, own_low _ h1]
theorem own_c2_0 (v s : Int32) (h0 : ¬ ((v &&& (-128 : Int32)) = 0)) (h1 : ((XT.ushr v (7 : Int32)) &&& (-128 : Int32)) = 0) : f1 (0 : Int32) v s s s s s s s s s = (0 : Int32) + (2 : Int32) ∧ fok0 (0 : Int32) (2 : Int32) v s (f1_x0 (0 : Int32) v s s s s s s s s s) (f1_x1 (0 : Int32) v s s s s s s s s s) (f1_x2 (0 : Int32) v s s s s s s s s s) (f1_x3 (0 : Int32) v s s s s s s s s s) (f1_x4 (0 : Int32) v s s s s s s s s s) (f1_x5 (0 : Int32) v s s s s s s s s s) (f1_x6 (0 : Int32) v s s s s s s s s s) (f1_x7 (0 : Int32) v s s s s s s s s s) (f1_x8 (0 : Int32) v s s s s s s s s s) = 1 ∧ fok1 (0 : Int32) (2 : Int32) v s (f1_x0 (0 : Int32) v s s s s s s s s s) (f1_x1 (0 : Int32) v s s s s s s s s s) (f1_x2 (0 : Int32) v s s s s s s s s s) (f1_x3 (0 : Int32) v s s s s s s s s s) (f1_x4 (0 : Int32) v s s s s s s s s s) (f1_x5 (0 : Int32) v s s s s s s s s s) (f1_x6 (0 : Int32) v s s s s s s s s s) (f1_x7 (0 : Int32) v s s s s s s s s s) (f1_x8 (0 : Int32) v s s s s s s s s s) = 1 ∧ fok2 (0 : Int32) (2 : Int32) v s (f1_x0 (0 : Int32) v s s s s s s s s s) (f1_x1 (0 : Int32) v s s s s s s s s s) (f1_x2 (0 : Int32) v s s s s s s s s s) (f1_x3 (0 : Int32) v s s s s s s s s s) (f1_x4 (0 : Int32) v s s s s s s s s s) (f1_x5 (0 : Int32) v s s s s s s s s s) (f1_x6 (0 : Int32) v s s s s s s s s s) (f1_x7 (0 : Int32) v s s s s s s s s s) (f1_x8 (0 : Int32) v s s s s s s s s s) = 1 ∧ fok3 (0 : Int32) (2 : Int32) v s (f1_x0 (0 : Int32) v s s s s s s s s s) (f1_x1 (0 : Int32) v s s s s s s s s s) (f1_x2 (0 : Int32) v s s s s s s s s s) (f1_x3 (0 : Int32) v s s s s s s s s s) (f1_x4 (0 : Int32) v s s s s s s s s s) (f1_x5 (0 : Int32) v s s s s s s s s s) (f1_x6 (0 : Int32) v s s s s s s s s s) (f1_x7 (0 : Int32) v s s s s s s s s s) (f1_x8 (0 : Int32) v s s s s s s s s s) = 1 ∧ fok4 (0 : Int32) (2 : Int32) v s (f1_x0 (0 : Int32) v s s s s s s s s s) (f1_x1 (0 : Int32) v s s s s s s s s s) (f1_x2 (0 : Int32) v s s s s s s s s s) (f1_x3 (0 : Int32) v s s s s s s s s s) (f1_x4 (0 : Int32) v s s s s s s s s s) (f1_x5 (0 : Int32) v s s s s s s s s s) (f1_x6 (0 : Int32) v s s s s s s s s s) (f1_x7 (0 : Int32) v s s s s s s s s s) (f1_x8 (0 : Int32) v s s s s s s s s s) = 1 ∧ fok5 (0 : Int32) (2 : Int32) v s (f1_x0 (0 : Int32) v s s s s s s s s s) (f1_x1 (0 : Int32) v s s s s s s s s s) (f1_x2 (0 : Int32) v s s s s s s s s s) (f1_x3 (0 : Int32) v s s s s s s s s s) (f1_x4 (0 : Int32) v s s s s s s s s s) (f1_x5 (0 : Int32) v s s s s s s s s s) (f1_x6 (0 : Int32) v s s s s s s s s s) (f1_x7 (0 : Int32) v s s s s s s s s s) (f1_x8 (0 : Int32) v s s s s s s s s s) = 1 ∧ fok6 (0 : Int32) (2 : Int32) v s (f1_x0 (0 : Int32) v s s s s s s s s s) (f1_x1 (0 : Int32) v s s s s s s s s s) (f1_x2 (0 : Int32) v s s s s s s s s s) (f1_x3 (0 : Int32) v s s s s s s s s s) (f1_x4 (0 : Int32) v s s s s s s s s s) (f1_x5 (0 : Int32) v s s s s s s s s s) (f1_x6 (0 : Int32) v s s s s s s s s s) (f1_x7 (0 : Int32) v s s s s s s s s s) (f1_x8 (0 : Int32) v s s s s s s s s s) = 1 ∧ fok7 (0 : Int32) (2 : Int32) v s (f1_x0 (0 : Int32) v s s s s s s s s s) (f1_x1 (0 : Int32) v s s s s s s s s s) (f1_x2 (0 : Int32) v s s s s s s s s s) (f1_x3 (0 : Int32) v s s s s s s s s s) (f1_x4 (0 : Int32) v s s s s s s s s s) (f1_x5 (0 : Int32) v s s s s s s s s s) (f1_x6 (0 : Int32) v s s s s s s s s s) (f1_x7 (0 : Int32) v s s s s s s s s s) (f1_x8 (0 : Int32) v s s s s s s s s s) = 1 ∧ fok8 (0 : Int32) (2 : Int32) v s (f1_x0 (0 : Int32) v s s s s s s s s s) (f1_x1 (0 : Int32) v s s s s s s s s s) (f1_x2 (0 : Int32) v s s s s s s s s s) (f1_x3 (0 : Int32) v s s s s s s s s s) (f1_x4 (0 : Int32) v s s s s s s s s s) (f1_x5 (0 : Int32) v s s s s s s s s s) (f1_x6 (0 : Int32) v s s s s s s s s s) (f1_x7 (0 : Int32) v s s s s s s s s s) (f1_x8 (0 : Int32) v s s s s s s s s s) = 1 := by
  have x0 : f1_x0 (0 : Int32) v s s s s s s s s s = ((v &&& (127 : Int32)) ||| (128 : Int32)).toInt8.toInt32.toInt8.toInt32 := by simp only [f1_x0, if_neg h0, if_pos h1]; rfl
  have x1 : f1_x1 (0 : Int32) v s s s s s s s s s = (XT.ushr v (7 : Int32)).toInt8.toInt32.toInt8.toInt32 := by simp only [f1_x1, if_neg h0, if_pos h1]; rfl
  have x2 : f1_x2 (0 : Int32) v s s s s s s s s s = s := by simp only [f1_x2, if_neg h0, if_pos h1]; rfl
  have x3 : f1_x3 (0 : Int32) v s s s s s s s s s = s := by simp only [f1_x3, if_neg h0, if_pos h1]; rfl
  have x4 : f1_x4 (0 : Int32) v s s s s s s s s s = s := by simp only [f1_x4, if_neg h0, if_pos h1]; rfl
  have x5 : f1_x5 (0 : Int32) v s s s s s s s s s = s := by simp only [f1_x5, if_neg h0, if_pos h1]; rfl
  have x6 : f1_x6 (0 : Int32) v s s s s s s s s s = s := by simp only [f1_x6, if_neg h0, if_pos h1]; rfl
  have x7 : f1_x7 (0 : Int32) v s s s s s s s s s = s := by simp only [f1_x7, if_neg h0, if_pos h1]; rfl
  have x8 : f1_x8 (0 : Int32) v s s s s s s s s s = s := by simp only [f1_x8, if_neg h0, if_pos h1]; rfl
  rw [x0, x1, x2, x3, x4, x5, x6, x7, x8]
  refine ⟨by simp only [f1, if_neg h0, if_pos h1]; try rfl, ?_, ?_, ?_, ?_, ?_, ?_, ?_, ?_, ?_⟩
  · exact (show fok0 (0 : Int32) (2 : Int32) v s (((v &&& (127 : Int32)) ||| (128 : Int32)).toInt8.toInt32.toInt8.toInt32) ((XT.ushr v (7 : Int32)).toInt8.toInt32.toInt8.toInt32) (s) (s) (s) (s) (s) (s) (s) = ((if ((v &&& (127 : Int32)) ||| (128 : Int32)).toInt8.toInt32.toInt8.toInt32 = (((XT.ushr v (0 : Int32)) &&& (127 : Int32)) ||| (128 : Int32)).toInt8.toInt32 then (1 : Int32) else (0 : Int32)) &&& 1) from rfl).trans (by rw [if_pos (own_e2_0 v)]; rfl)
  · exact (show fok1 (0 : Int32) (2 : Int32) v s (((v &&& (127 : Int32)) ||| (128 : Int32)).toInt8.toInt32.toInt8.toInt32) ((XT.ushr v (7 : Int32)).toInt8.toInt32.toInt8.toInt32) (s) (s) (s) (s) (s) (s) (s) = ((if (XT.ushr v (7 : Int32)).toInt8.toInt32.toInt8.toInt32 = ((XT.ushr v (7 : Int32)) &&& (127 : Int32)).toInt8.toInt32 then (1 : Int32) else (0 : Int32)) &&& 1) from rfl).trans (by rw [if_pos (own_e2_1 v h1)]; rfl)
  · exact (show fok2 (0 : Int32) (2 : Int32) v s (((v &&& (127 : Int32)) ||| (128 : Int32)).toInt8.toInt32.toInt8.toInt32) ((XT.ushr v (7 : Int32)).toInt8.toInt32.toInt8.toInt32) (s) (s) (s) (s) (s) (s) (s) = ((if s = s then (1 : Int32) else (0 : Int32)) &&& 1) from rfl).trans (by rw [if_pos rfl]; rfl)
  · exact (show fok3 (0 : Int32) (2 : Int32) v s (((v &&& (127 : Int32)) ||| (128 : Int32)).toInt8.toInt32.toInt8.toInt32) ((XT.ushr v (7 : Int32)).toInt8.toInt32.toInt8.toInt32) (s) (s) (s) (s) (s) (s) (s) = ((if s = s then (1 : Int32) else (0 : Int32)) &&& 1) from rfl).trans (by rw [if_pos rfl]; rfl)
  · exact (show fok4 (0 : Int32) (2 : Int32) v s (((v &&& (127 : Int32)) ||| (128 : Int32)).toInt8.toInt32.toInt8.toInt32) ((XT.ushr v (7 : Int32)).toInt8.toInt32.toInt8.toInt32) (s) (s) (s) (s) (s) (s) (s) = ((if s = s then (1 : Int32) else (0 : Int32)) &&& 1) from rfl).trans (by rw [if_pos rfl]; rfl)
  · exact (show fok5 (0 : Int32) (2 : Int32) v s (((v &&& (127 : Int32)) ||| (128 : Int32)).toInt8.toInt32.toInt8.toInt32) ((XT.ushr v (7 : Int32)).toInt8.toInt32.toInt8.toInt32) (s) (s) (s) (s) (s) (s) (s) = ((if s = s then (1 : Int32) else (0 : Int32)) &&& 1) from rfl).trans (by rw [if_pos rfl]; rfl)
  · exact (show fok6 (0 : Int32) (2 : Int32) v s (((v &&& (127 : Int32)) ||| (128 : Int32)).toInt8.toInt32.toInt8.toInt32) ((XT.ushr v (7 : Int32)).toInt8.toInt32.toInt8.toInt32) (s) (s) (s) (s) (s) (s) (s) = ((if s = s then (1 : Int32) else (0 : Int32)) &&& 1) from rfl).trans (by rw [if_pos rfl]; rfl)
  · exact (show fok7 (0 : Int32) (2 : Int32) v s (((v &&& (127 : Int32)) ||| (128 : Int32)).toInt8.toInt32.toInt8.toInt32) ((XT.ushr v (7 : Int32)).toInt8.toInt32.toInt8.toInt32) (s) (s) (s) (s) (s) (s) (s) = ((if s = s then (1 : Int32) else (0 : Int32)) &&& 1) from rfl).trans (by rw [if_pos rfl]; rfl)
  · exact (show fok8 (0 : Int32) (2 : Int32) v s (((v &&& (127 : Int32)) ||| (128 : Int32)).toInt8.toInt32.toInt8.toInt32) ((XT.ushr v (7 : Int32)).toInt8.toInt32.toInt8.toInt32) (s) (s) (s) (s) (s) (s) (s) = ((if s = s then (1 : Int32) else (0 : Int32)) &&& 1) from rfl).trans (by rw [if_pos rfl]; rfl)
theorem own_c2_1 (v s : Int32) (h0 : ¬ ((v &&& (-128 : Int32)) = 0)) (h1 : ((XT.ushr v (7 : Int32)) &&& (-128 : Int32)) = 0) : f1 (1 : Int32) v s s s s s s s s s = (1 : Int32) + (2 : Int32) ∧ fok0 (1 : Int32) (2 : Int32) v s (f1_x0 (1 : Int32) v s s s s s s s s s) (f1_x1 (1 : Int32) v s s s s s s s s s) (f1_x2 (1 : Int32) v s s s s s s s s s) (f1_x3 (1 : Int32) v s s s s s s s s s) (f1_x4 (1 : Int32) v s s s s s s s s s) (f1_x5 (1 : Int32) v s s s s s s s s s) (f1_x6 (1 : Int32) v s s s s s s s s s) (f1_x7 (1 : Int32) v s s s s s s s s s) (f1_x8 (1 : Int32) v s s s s s s s s s) = 1 ∧ fok1 (1 : Int32) (2 : Int32) v s (f1_x0 (1 : Int32) v s s s s s s s s s) (f1_x1 (1 : Int32) v s s s s s s s s s) (f1_x2 (1 : Int32) v s s s s s s s s s) (f1_x3 (1 : Int32) v s s s s s s s s s) (f1_x4 (1 : Int32) v s s s s s s s s s) (f1_x5 (1 : Int32) v s s s s s s s s s) (f1_x6 (1 : Int32) v s s s s s s s s s) (f1_x7 (1 : Int32) v s s s s s s s s s) (f1_x8 (1 : Int32) v s s s s s s s s s) = 1 ∧ fok2 (1 : Int32) (2 : Int32) v s (f1_x0 (1 : Int32) v s s s s s s s s s) (f1_x1 (1 : Int32) v s s s s s s s s s) (f1_x2 (1 : Int32) v s s s s s s s s s) (f1_x3 (1 : Int32) v s s s s s s s s s) (f1_x4 (1 : Int32) v s s s s s s s s s) (f1_x5 (1 : Int32) v s s s s s s s s s) (f1_x6 (1 : Int32) v s s s s s s s s s) (f1_x7 (1 : Int32) v s s s s s s s s s) (f1_x8 (1 : Int32) v s s s s s s s s s) = 1 ∧ fok3 (1 : Int32) (2 : Int32) v s (f1_x0 (1 : Int32) v s s s s s s s s s) (f1_x1 (1 : Int32) v s s s s s s s s s) (f1_x2 (1 : Int32) v s s s s s s s s s) (f1_x3 (1 : Int32) v s s s s s s s s s) (f1_x4 (1 : Int32) v s s s s s s s s s) (f1_x5 (1 : Int32) v s s s s s s s s s) (f1_x6 (1 : Int32) v s s s s s s s s s) (f1_x7 (1 : Int32) v s s s s s s s s s) (f1_x8 (1 : Int32) v s s s s s s s s s) = 1 ∧ fok4 (1 : Int32) (2 : Int32) v s (f1_x0 (1 : Int32) v s s s s s s s s s) (f1_x1 (1 : Int32) v s s s s s s s s s) (f1_x2 (1 : Int32) v s s s s s s s s s) (f1_x3 (1 : Int32) v s s s s s s s s s) (f1_x4 (1 : Int32) v s s s s s s s s s) (f1_x5 (1 : Int32) v s s s s s s s s s) (f1_x6 (1 : Int32) v s s s s s s s s s) (f1_x7 (1 : Int32) v s s s s s s s s s) (f1_x8 (1 : Int32) v s s s s s s s s s) = 1 ∧ fok5 (1 : Int32) (2 : Int32) v s (f1_x0 (1 : Int32) v s s s s s s s s s) (f1_x1 (1 : Int32) v s s s s s s s s s) (f1_x2 (1 : Int32) v s s s s s s s s s) (f1_x3 (1 : Int32) v s s s s s s s s s) (f1_x4 (1 : Int32) v s s s s s s s s s) (f1_x5 (1 : Int32) v s s s s s s s s s) (f1_x6 (1 : Int32) v s s s s s s s s s) (f1_x7 (1 : Int32) v s s s s s s s s s) (f1_x8 (1 : Int32) v s s s s s s s s s) = 1 ∧ fok6 (1 : Int32) (2 : Int32) v s (f1_x0 (1 : Int32) v s s s s s s s s s) (f1_x1 (1 : Int32) v s s s s s s s s s) (f1_x2 (1 : Int32) v s s s s s s s s s) (f1_x3 (1 : Int32) v s s s s s s s s s) (f1_x4 (1 : Int32) v s s s s s s s s s) (f1_x5 (1 : Int32) v s s s s s s s s s) (f1_x6 (1 : Int32) v s s s s s s s s s) (f1_x7 (1 : Int32) v s s s s s s s s s) (f1_x8 (1 : Int32) v s s s s s s s s s) = 1 ∧ fok7 (1 : Int32) (2 : Int32) v s (f1_x0 (1 : Int32) v s s s s s s s s s) (f1_x1 (1 : Int32) v s s s s s s s s s) (f1_x2 (1 : Int32) v s s s s s s s s s) (f1_x3 (1 : Int32) v s s s s s s s s s) (f1_x4 (1 : Int32) v s s s s s s s s s) (f1_x5 (1 : Int32) v s s s s s s s s s) (f1_x6 (1 : Int32) v s s s s s s s s s) (f1_x7 (1 : Int32) v s s s s s s s s s) (f1_x8 (1 : Int32) v s s s s s s s s s) = 1 ∧ fok8 (1 : Int32) (2 : Int32) v s (f1_x0 (1 : Int32) v s s s s s s s s s) (f1_x1 (1 : Int32) v s s s s s s s s s) (f1_x2 (1 : Int32) v s s s s s s s s s) (f1_x3 (1 : Int32) v s s s s s s s s s) (f1_x4 (1 : Int32) v s s s s s s s s s) (f1_x5 (1 : Int32) v s s s s s s s s s) (f1_x6 (1 : Int32) v s s s s s s s s s) (f1_x7 (1 : Int32) v s s s s s s s s s) (f1_x8 (1 : Int32) v s s s s s s s s s) = 1 := by
  have x0 : f1_x0 (1 : Int32) v s s s s s s s s s = s := by simp only [f1_x0, if_neg h0, if_pos h1]; rfl
  have x1 : f1_x1 (1 : Int32) v s s s s s s s s s = ((v &&& (127 : Int32)) ||| (128 : Int32)).toInt8.toInt32.toInt8.toInt32 := by simp only [f1_x1, if_neg h0, if_pos h1]; rfl
  have x2 : f1_x2 (1 : Int32) v s s s s s s s s s = (XT.ushr v (7 : Int32)).toInt8.toInt32.toInt8.toInt32 := by simp only [f1_x2, if_neg h0, if_pos h1]; rfl
  have x3 : f1_x3 (1 : Int32) v s s s s s s s s s = s := by simp only [f1_x3, if_neg h0, if_pos h1]; rfl
  have x4 : f1_x4 (1 : Int32) v s s s s s s s s s = s := by simp only [f1_x4, if_neg h0, if_pos h1]; rfl
  have x5 : f1_x5 (1 : Int32) v s s s s s s s s s = s := by simp only [f1_x5, if_neg h0, if_pos h1]; rfl
  have x6 : f1_x6 (1 : Int32) v s s s s s s s s s = s := by simp only [f1_x6, if_neg h0, if_pos h1]; rfl
  have x7 : f1_x7 (1 : Int32) v s s s s s s s s s = s := by simp only [f1_x7, if_neg h0, if_pos h1]; rfl
  have x8 : f1_x8 (1 : Int32) v s s s s s s s s s = s := by simp only [f1_x8, if_neg h0, if_pos h1]; rfl
  rw [x0, x1, x2, x3, x4, x5, x6, x7, x8]
  refine ⟨by simp only [f1, if_neg h0, if_pos h1]; try rfl, ?_, ?_, ?_, ?_, ?_, ?_, ?_, ?_, ?_⟩
  · exact (show fok0 (1 : Int32) (2 : Int32) v s (s) (((v &&& (127 : Int32)) ||| (128 : Int32)).toInt8.toInt32.toInt8.toInt32) ((XT.ushr v (7 : Int32)).toInt8.toInt32.toInt8.toInt32) (s) (s) (s) (s) (s) (s) = ((if s = s then (1 : Int32) else (0 : Int32)) &&& 1) from rfl).trans (by rw [if_pos rfl]; rfl)
  · exact (show fok1 (1 : Int32) (2 : Int32) v s (s) (((v &&& (127 : Int32)) ||| (128 : Int32)).toInt8.toInt32.toInt8.toInt32) ((XT.ushr v (7 : Int32)).toInt8.toInt32.toInt8.toInt32) (s) (s) (s) (s) (s) (s) = ((if ((v &&& (127 : Int32)) ||| (128 : Int32)).toInt8.toInt32.toInt8.toInt32 = (((XT.ushr v (0 : Int32)) &&& (127 : Int32)) ||| (128 : Int32)).toInt8.toInt32 then (1 : Int32) else (0 : Int32)) &&& 1) from rfl).trans (by rw [if_pos (own_e2_0 v)]; rfl)
  · exact (show fok2 (1 : Int32) (2 : Int32) v s (s) (((v &&& (127 : Int32)) ||| (128 : Int32)).toInt8.toInt32.toInt8.toInt32) ((XT.ushr v (7 : Int32)).toInt8.toInt32.toInt8.toInt32) (s) (s) (s) (s) (s) (s) = ((if (XT.ushr v (7 : Int32)).toInt8.toInt32.toInt8.toInt32 = ((XT.ushr v (7 : Int32)) &&& (127 : Int32)).toInt8.toInt32 then (1 : Int32) else (0 : Int32)) &&& 1) from rfl).trans (by rw [if_pos (own_e2_1 v h1)]; rfl)
  · exact (show fok3 (1 : Int32) (2 : Int32) v s (s) (((v &&& (127 : Int32)) ||| (128 : Int32)).toInt8.toInt32.toInt8.toInt32) ((XT.ushr v (7 : Int32)).toInt8.toInt32.toInt8.toInt32) (s) (s) (s) (s) (s) (s) = ((if s = s then (1 : Int32) else (0 : Int32)) &&& 1) from rfl).trans (by rw [if_pos rfl]; rfl)
  · exact (show fok4 (1 : Int32) (2 : Int32) v s (s) (((v &&& (127 : Int32)) ||| (128 : Int32)).toInt8.toInt32.toInt8.toInt32) ((XT.ushr v (7 : Int32)).toInt8.toInt32.toInt8.toInt32) (s) (s) (s) (s) (s) (s) = ((if s = s then (1 : Int32) else (0 : Int32)) &&& 1) from rfl).trans (by rw [if_pos rfl]; rfl)
  · exact (show fok5 (1 : Int32) (2 : Int32) v s (s) (((v &&& (127 : Int32)) ||| (128 : Int32)).toInt8.toInt32.toInt8.toInt32) ((XT.ushr v (7 : Int32)).toInt8.toInt32.toInt8.toInt32) (s) (s) (s) (s) (s) (s) = ((if s = s then (1 : Int32) else (0 : Int32)) &&& 1) from rfl).trans (by rw [if_pos rfl]; rfl)
  · exact (show fok6 (1 : Int32) (2 : Int32) v s (s) (((v &&& (127 : Int32)) ||| (128 : Int32)).toInt8.toInt32.toInt8.toInt32) ((XT.ushr v (7 : Int32)).toInt8.toInt32.toInt8.toInt32) (s) (s) (s) (s) (s) (s) = ((if s = s then (1 : Int32) else (0 : Int32)) &&& 1) from rfl).trans (by rw [if_pos rfl]; rfl)
  · exact (show fok7 (1 : Int32) (2 : Int32) v s (s) (((v &&& (127 : Int32)) ||| (128 : Int32)).toInt8.toInt32.toInt8.toInt32) ((XT.ushr v (7 : Int32)).toInt8.toInt32.toInt8.toInt32) (s) (s) (s) (s) (s) (s) = ((if s = s then (1 : Int32) else (0 : Int32)) &&& 1) from rfl).trans (by rw [if_pos rfl]; rfl)
  · exact (show fok8 (1 : Int32) (2 : Int32) v s (s) (((v &&& (127 : Int32)) ||| (128 : Int32)).toInt8.toInt32.toInt8.toInt32) ((XT.ushr v (7 : Int32)).toInt8.toInt32.toInt8.toInt32) (s) (s) (s) (s) (s) (s) = ((if s = s then (1 : Int32) else (0 : Int32)) &&& 1) from rfl).trans (by rw [if_pos rfl]; rfl)
theorem own_c2_2 (v s : Int32) (h0 : ¬ ((v &&& (-128 : Int32)) = 0)) (h1 : ((XT.ushr v (7 : Int32)) &&& (-128 : Int32)) = 0) : f1 (2 : Int32) v s s s s s s s s s = (2 : Int32) + (2 : Int32) ∧ fok0 (2 : Int32) (2 : Int32) v s (f1_x0 (2 : Int32) v s s s s s s s s s) (f1_x1 (2 : Int32) v s s s s s s s s s) (f1_x2 (2 : Int32) v s s s s s s s s s) (f1_x3 (2 : Int32) v s s s s s s s s s) (f1_x4 (2 : Int32) v s s s s s s s s s) (f1_x5 (2 : Int32) v s s s s s s s s s) (f1_x6 (2 : Int32) v s s s s s s s s s) (f1_x7 (2 : Int32) v s s s s s s s s s) (f1_x8 (2 : Int32) v s s s s s s s s s) = 1 ∧ fok1 (2 : Int32) (2 : Int32) v s (f1_x0 (2 : Int32) v s s s s s s s s s) (f1_x1 (2 : Int32) v s s s s s s s s s) (f1_x2 (2 : Int32) v s s s s s s s s s) (f1_x3 (2 : Int32) v s s s s s s s s s) (f1_x4 (2 : Int32) v s s s s s s s s s) (f1_x5 (2 : Int32) v s s s s s s s s s) (f1_x6 (2 : Int32) v s s s s s s s s s) (f1_x7 (2 : Int32) v s s s s s s s s s) (f1_x8 (2 : Int32) v s s s s s s s s s) = 1 ∧ fok2 (2 : Int32) (2 : Int32) v s (f1_x0 (2 : Int32) v s s s s s s s s s) (f1_x1 (2 : Int32) v s s s s s s s s s) (f1_x2 (2 : Int32) v s s s s s s s s s) (f1_x3 (2 : Int32) v s s s s s s s s s) (f1_x4 (2 : Int32) v s s s s s s s s s) (f1_x5 (2 : Int32) v s s s s s s s s s) (f1_x6 (2 : Int32) v s s s s s s s s s) (f1_x7 (2 : Int32) v s s s s s s s s s) (f1_x8 (2 : Int32) v s s s s s s s s s) = 1 ∧ fok3 (2 : Int32) (2 : Int32) v s (f1_x0 (2 : Int32) v s s s s s s s s s) (f1_x1 (2 : Int32) v s s s s s s s s s) (f1_x2 (2 : Int32) v s s s s s s s s s) (f1_x3 (2 : Int32) v s s s s s s s s s) (f1_x4 (2 : Int32) v s s s s s s s s s) (f1_x5 (2 : Int32) v s s s s s s s s s) (f1_x6 (2 : Int32) v s s s s s s s s s) (f1_x7 (2 : Int32) v s s s s s s s s s) (f1_x8 (2 : Int32) v s s s s s s s s s) = 1 ∧ fok4 (2 : Int32) (2 : Int32) v s (f1_x0 (2 : Int32) v s s s s s s s s s) (f1_x1 (2 : Int32) v s s s s s s s s s) (f1_x2 (2 : Int32) v s s s s s s s s s) (f1_x3 (2 : Int32) v s s s s s s s s s) (f1_x4 (2 : Int32) v s s s s s s s s s) (f1_x5 (2 : Int32) v s s s s s s s s s) (f1_x6 (2 : Int32) v s s s s s s s s s) (f1_x7 (2 : Int32) v s s s s s s s s s) (f1_x8 (2 : Int32) v s s s s s s s s s) = 1 ∧ fok5 (2 : Int32) (2 : Int32) v s (f1_x0 (2 : Int32) v s s s s s s s s s) (f1_x1 (2 : Int32) v s s s s s s s s s) (f1_x2 (2 : Int32) v s s s s s s s s s) (f1_x3 (2 : Int32) v s s s s s s s s s) (f1_x4 (2 : Int32) v s s s s s s s s s) (f1_x5 (2 : Int32) v s s s s s s s s s) (f1_x6 (2 : Int32) v s s s s s s s s s) (f1_x7 (2 : Int32) v s s s s s s s s s) (f1_x8 (2 : Int32) v s s s s s s s s s) = 1 ∧ fok6 (2 : Int32) (2 : Int32) v s (f1_x0 (2 : Int32) v s s s s s s s s s) (f1_x1 (2 : Int32) v s s s s s s s s s) (f1_x2 (2 : Int32) v s s s s s s s s s) (f1_x3 (2 : Int32) v s s s s s s s s s) (f1_x4 (2 : Int32) v s s s s s s s s s) (f1_x5 (2 : Int32) v s s s s s s s s s) (f1_x6 (2 : Int32) v s s s s s s s s s) (f1_x7 (2 : Int32) v s s s s s s s s s) (f1_x8 (2 : Int32) v s s s s s s s s s) = 1 ∧ fok7 (2 : Int32) (2 : Int32) v s (f1_x0 (2 : Int32) v s s s s s s s s s) (f1_x1 (2 : Int32) v s s s s s s s s s) (f1_x2 (2 : Int32) v s s s s s s s s s) (f1_x3 (2 : Int32) v s s s s s s s s s) (f1_x4 (2 : Int32) v s s s s s s s s s) (f1_x5 (2 : Int32) v s s s s s s s s s) (f1_x6 (2 : Int32) v s s s s s s s s s) (f1_x7 (2 : Int32) v s s s s s s s s s) (f1_x8 (2 : Int32) v s s s s s s s s s) = 1 ∧ fok8 (2 : Int32) (2 : Int32) v s (f1_x0 (2 : Int32) v s s s s s s s s s) (f1_x1 (2 : Int32) v s s s s s s s s s) (f1_x2 (2 : Int32) v s s s s s s s s s) (f1_x3 (2 : Int32) v s s s s s s s s s) (f1_x4 (2 : Int32) v s s s s s s s s s) (f1_x5 (2 : Int32) v s s s s s s s s s) (f1_x6 (2 : Int32) v s s s s s s s s s) (f1_x7 (2 : Int32) v s s s s s s s s s) (f1_x8 (2 : Int32) v s s s s s s s s s) = 1 := by
  have x0 : f1_x0 (2 : Int32) v s s s s s s s s s = s := by simp only [f1_x0, if_neg h0, if_pos h1]; rfl
  have x1 : f1_x1 (2 : Int32) v s s s s s s s s s = s := by simp only [f1_x1, if_neg h0, if_pos h1]; rfl
  have x2 : f1_x2 (2 : Int32) v s s s s s s s s s = ((v &&& (127 : Int32)) ||| (128 : Int32)).toInt8.toInt32.toInt8.toInt32 := by simp only [f1_x2, if_neg h0, if_pos h1]; rfl
  have x3 : f1_x3 (2 : Int32) v s s s s s s s s s = (XT.ushr v (7 : Int32)).toInt8.toInt32.toInt8.toInt32 := by simp only [f1_x3, if_neg h0, if_pos h1]; rfl
  have x4 : f1_x4 (2 : Int32) v s s s s s s s s s = s := by simp only [f1_x4, if_neg h0, if_pos h1]; rfl
  have x5 : f1_x5 (2 : Int32) v s s s s s s s s s = s := by simp only [f1_x5, if_neg h0, if_pos h1]; rfl
  have x6 : f1_x6 (2 : Int32) v s s s s s s s s s = s := by simp only [f1_x6, if_neg h0, if_pos h1]; rfl
  have x7 : f1_x7 (2 : Int32) v s s s s s s s s s = s := by simp only [f1_x7, if_neg h0, if_pos h1]; rfl
  have x8 : f1_x8 (2 : Int32) v s s s s s s s s s = s := by simp only [f1_x8, if_neg h0, if_pos h1]; rfl
  rw [x0, x1, x2, x3, x4, x5, x6, x7, x8]
  refine ⟨by simp only [f1, if_neg h0, if_pos h1]; try rfl, ?_, ?_, ?_, ?_, ?_, ?_, ?_, ?_, ?_⟩
  · exact (show fok0 (2 : Int32) (2 : Int32) v s (s) (s) (((v &&& (127 : Int32)) ||| (128 : Int32)).toInt8.toInt32.toInt8.toInt32) ((XT.ushr v (7 : Int32)).toInt8.toInt32.toInt8.toInt32) (s) (s) (s) (s) (s) = ((if s = s then (1 : Int32) else (0 : Int32)) &&& 1) from rfl).trans (by rw [if_pos rfl]; rfl)
  · exact (show fok1 (2 : Int32) (2 : Int32) v s (s) (s) (((v &&& (127 : Int32)) ||| (128 : Int32)).toInt8.toInt32.toInt8.toInt32) ((XT.ushr v (7 : Int32)).toInt8.toInt32.toInt8.toInt32) (s) (s) (s) (s) (s) = ((if s = s then (1 : Int32) else (0 : Int32)) &&& 1) from rfl).trans (by rw [if_pos rfl]; rfl)
  · exact (show fok2 (2 : Int32) (2 : Int32) v s (s) (s) (((v &&& (127 : Int32)) ||| (128 : Int32)).toInt8.toInt32.toInt8.toInt32) ((XT.ushr v (7 : Int32)).toInt8.toInt32.toInt8.toInt32) (s) (s) (s) (s) (s) = ((if ((v &&& (127 : Int32)) ||| (128 : Int32)).toInt8.toInt32.toInt8.toInt32 = (((XT.ushr v (0 : Int32)) &&& (127 : Int32)) ||| (128 : Int32)).toInt8.toInt32 then (1 : Int32) else (0 : Int32)) &&& 1) from rfl).trans (by rw [if_pos (own_e2_0 v)]; rfl)
  · exact (show fok3 (2 : Int32) (2 : Int32) v s (s) (s) (((v &&& (127 : Int32)) ||| (128 : Int32)).toInt8.toInt32.toInt8.toInt32) ((XT.ushr v (7 : Int32)).toInt8.toInt32.toInt8.toInt32) (s) (s) (s) (s) (s) = ((if (XT.ushr v (7 : Int32)).toInt8.toInt32.toInt8.toInt32 = ((XT.ushr v (7 : Int32)) &&& (127 : Int32)).toInt8.toInt32 then (1 : Int32) else (0 : Int32)) &&& 1) from rfl).trans (by rw [if_pos (own_e2_1 v h1)]; rfl)
  · exact (show fok4 (2 : Int32) (2 : Int32) v s (s) (s) (((v &&& (127 : Int32)) ||| (128 : Int32)).toInt8.toInt32.toInt8.toInt32) ((XT.ushr v (7 : Int32)).toInt8.toInt32.toInt8.toInt32) (s) (s) (s) (s) (s) = ((if s = s then (1 : Int32) else (0 : Int32)) &&& 1) from rfl).trans (by rw [if_pos rfl]; rfl)
  · exact (show fok5 (2 : Int32) (2 : Int32) v s (s) (s) (((v &&& (127 : Int32)) ||| (128 : Int32)).toInt8.toInt32.toInt8.toInt32) ((XT.ushr v (7 : Int32)).toInt8.toInt32.toInt8.toInt32) (s) (s) (s) (s) (s) = ((if s = s then (1 : Int32) else (0 : Int32)) &&& 1) from rfl).trans (by rw [if_pos rfl]; rfl)
  · exact (show fok6 (2 : Int32) (2 : Int32) v s (s) (s) (((v &&& (127 : Int32)) ||| (128 : Int32)).toInt8.toInt32.toInt8.toInt32) ((XT.ushr v (7 : Int32)).toInt8.toInt32.toInt8.toInt32) (s) (s) (s) (s) (s) = ((if s = s then (1 : Int32) else (0 : Int32)) &&& 1) from rfl).trans (by rw [if_pos rfl]; rfl)
  · exact (show fok7 (2 : Int32) (2 : Int32) v s (s) (s) (((v &&& (127 : Int32)) ||| (128 : Int32)).toInt8.toInt32.toInt8.toInt32) ((XT.ushr v (7 : Int32)).toInt8.toInt32.toInt8.toInt32) (s) (s) (s) (s) (s) = ((if s = s then (1 : Int32) else (0 : Int32)) &&& 1) from rfl).trans (by rw [if_pos rfl]; rfl)
  · exact (show fok8 (2 : Int32) (2 : Int32) v s (s) (s) (((v &&& (127 : Int32)) ||| (128 : Int32)).toInt8.toInt32.toInt8.toInt32) ((XT.ushr v (7 : Int32)).toInt8.toInt32.toInt8.toInt32) (s) (s) (s) (s) (s) = ((if s = s then (1 : Int32) else (0 : Int32)) &&& 1) from rfl).trans (by rw [if_pos rfl]; rfl)
theorem own_c2_3 (v s : Int32) (h0 : ¬ ((v &&& (-128 : Int32)) = 0)) (h1 : ((XT.ushr v (7 : Int32)) &&& (-128 : Int32)) = 0) : f1 (3 : Int32) v s s s s s s s s s = (3 : Int32) + (2 : Int32) ∧ fok0 (3 : Int32) (2 : Int32) v s (f1_x0 (3 : Int32) v s s s s s s s s s) (f1_x1 (3 : Int32) v s s s s s s s s s) (f1_x2 (3 : Int32) v s s s s s s s s s) (f1_x3 (3 : Int32) v s s s s s s s s s) (f1_x4 (3 : Int32) v s s s s s s s s s) (f1_x5 (3 : Int32) v s s s s s s s s s) (f1_x6 (3 : Int32) v s s s s s s s s s) (f1_x7 (3 : Int32) v s s s s s s s s s) (f1_x8 (3 : Int32) v s s s s s s s s s) = 1 ∧ fok1 (3 : Int32) (2 : Int32) v s (f1_x0 (3 : Int32) v s s s s s s s s s) (f1_x1 (3 : Int32) v s s s s s s s s s) (f1_x2 (3 : Int32) v s s s s s s s s s) (f1_x3 (3 : Int32) v s s s s s s s s s) (f1_x4 (3 : Int32) v s s s s s s s s s) (f1_x5 (3 : Int32) v s s s s s s s s s) (f1_x6 (3 : Int32) v s s s s s s s s s) (f1_x7 (3 : Int32) v s s s s s s s s s) (f1_x8 (3 : Int32) v s s s s s s s s s) = 1 ∧ fok2 (3 : Int32) (2 : Int32) v s (f1_x0 (3 : Int32) v s s s s s s s s s) (f1_x1 (3 : Int32) v s s s s s s s s s) (f1_x2 (3 : Int32) v s s s s s s s s s) (f1_x3 (3 : Int32) v s s s s s s s s s) (f1_x4 (3 : Int32) v s s s s s s s s s) (f1_x5 (3 : Int32) v s s s s s s s s s) (f1_x6 (3 : Int32) v s s s s s s s s s) (f1_x7 (3 : Int32) v s s s s s s s s s) (f1_x8 (3 : Int32) v s s s s s s s s s) = 1 ∧ fok3 (3 : Int32) (2 : Int32) v s (f1_x0 (3 : Int32) v s s s s s s s s s) (f1_x1 (3 : Int32) v s s s s s s s s s) (f1_x2 (3 : Int32) v s s s s s s s s s) (f1_x3 (3 : Int32) v s s s s s s s s s) (f1_x4 (3 : Int32) v s s s s s s s s s) (f1_x5 (3 : Int32) v s s s s s s s s s) (f1_x6 (3 : Int32) v s s s s s s s s s) (f1_x7 (3 : Int32) v s s s s s s s s s) (f1_x8 (3 : Int32) v s s s s s s s s s) = 1 ∧ fok4 (3 : Int32) (2 : Int32) v s (f1_x0 (3 : Int32) v s s s s s s s s s) (f1_x1 (3 : Int32) v s s s s s s s s s) (f1_x2 (3 : Int32) v s s s s s s s s s) (f1_x3 (3 : Int32) v s s s s s s s s s) (f1_x4 (3 : Int32) v s s s s s s s s s) (f1_x5 (3 : Int32) v s s s s s s s s s) (f1_x6 (3 : Int32) v s s s s s s s s s) (f1_x7 (3 : Int32) v s s s s s s s s s) (f1_x8 (3 : Int32) v s s s s s s s s s) = 1 ∧ fok5 (3 : Int32) (2 : Int32) v s (f1_x0 (3 : Int32) v s s s s s s s s s) (f1_x1 (3 : Int32) v s s s s s s s s s) (f1_x2 (3 : Int32) v s s s s s s s s s) (f1_x3 (3 : Int32) v s s s s s s s s s) (f1_x4 (3 : Int32) v s s s s s s s s s) (f1_x5 (3 : Int32) v s s s s s s s s s) (f1_x6 (3 : Int32) v s s s s s s s s s) (f1_x7 (3 : Int32) v s s s s s s s s s) (f1_x8 (3 : Int32) v s s s s s s s s s) = 1 ∧ fok6 (3 : Int32) (2 : Int32) v s (f1_x0 (3 : Int32) v s s s s s s s s s) (f1_x1 (3 : Int32) v s s s s s s s s s) (f1_x2 (3 : Int32) v s s s s s s s s s) (f1_x3 (3 : Int32) v s s s s s s s s s) (f1_x4 (3 : Int32) v s s s s s s s s s) (f1_x5 (3 : Int32) v s s s s s s s s s) (f1_x6 (3 : Int32) v s s s s s s s s s) (f1_x7 (3 : Int32) v s s s s s s s s s) (f1_x8 (3 : Int32) v s s s s s s s s s) = 1 ∧ fok7 (3 : Int32) (2 : Int32) v s (f1_x0 (3 : Int32) v s s s s s s s s s) (f1_x1 (3 : Int32) v s s s s s s s s s) (f1_x2 (3 : Int32) v s s s s s s s s s) (f1_x3 (3 : Int32) v s s s s s s s s s) (f1_x4 (3 : Int32) v s s s s s s s s s) (f1_x5 (3 : Int32) v s s s s s s s s s) (f1_x6 (3 : Int32) v s s s s s s s s s) (f1_x7 (3 : Int32) v s s s s s s s s s) (f1_x8 (3 : Int32) v s s s s s s s s s) = 1 ∧ fok8 (3 : Int32) (2 : Int32) v s (f1_x0 (3 : Int32) v s s s s s s s s s) (f1_x1 (3 : Int32) v s s s s s s s s s) (f1_x2 (3 : Int32) v s s s s s s s s s) (f1_x3 (3 : Int32) v s s s s s s s s s) (f1_x4 (3 : Int32) v s s s s s s s s s) (f1_x5 (3 : Int32) v s s s s s s s s s) (f1_x6 (3 : Int32) v s s s s s s s s s) (f1_x7 (3 : Int32) v s s s s s s s s s) (f1_x8 (3 : Int32) v s s s s s s s s s) = 1 := by
  have x0 : f1_x0 (3 : Int32) v s s s s s s s s s = s := by simp only [f1_x0, if_neg h0, if_pos h1]; rfl
  have x1 : f1_x1 (3 : Int32) v s s s s s s s s s = s := by simp only [f1_x1, if_neg h0, if_pos h1]; rfl
  have x2 : f1_x2 (3 : Int32) v s s s s s s s s s = s := by simp only [f1_x2, if_neg h0, if_pos h1]; rfl
  have x3 : f1_x3 (3 : Int32) v s s s s s s s s s = ((v &&& (127 : Int32)) ||| (128 : Int32)).toInt8.toInt32.toInt8.toInt32 := by simp only [f1_x3, if_neg h0, if_pos h1]; rfl
  have x4 : f1_x4 (3 : Int32) v s s s s s s s s s = (XT.ushr v (7 : Int32)).toInt8.toInt32.toInt8.toInt32 := by simp only [f1_x4, if_neg h0, if_pos h1]; rfl
  have x5 : f1_x5 (3 : Int32) v s s s s s s s s s = s := by simp only [f1_x5, if_neg h0, if_pos h1]; rfl
  have x6 : f1_x6 (3 : Int32) v s s s s s s s s s = s := by simp only [f1_x6, if_neg h0, if_pos h1]; rfl
  have x7 : f1_x7 (3 : Int32) v s s s s s s s s s = s := by simp only [f1_x7, if_neg h0, if_pos h1]; rfl
  have x8 : f1_x8 (3 : Int32) v s s s s s s s s s = s := by simp only [f1_x8, if_neg h0, if_pos h1]; rfl
  rw [x0, x1, x2, x3, x4, x5, x6, x7, x8]
  refine ⟨by simp only [f1, if_neg h0, if_pos h1]; try rfl, ?_, ?_, ?_, ?_, ?_, ?_, ?_, ?_, ?_⟩
  · exact (show fok0 (3 : Int32) (2 : Int32) v s (s) (s) (s) (((v &&& (127 : Int32)) ||| (128 : Int32)).toInt8.toInt32.toInt8.toInt32) ((XT.ushr v (7 : Int32)).toInt8.toInt32.toInt8.toInt32) (s) (s) (s) (s) = ((if s = s then (1 : Int32) else (0 : Int32)) &&& 1) from rfl).trans (by rw [if_pos rfl]; rfl)
  · exact (show fok1 (3 : Int32) (2 : Int32) v s (s) (s) (s) (((v &&& (127 : Int32)) ||| (128 : Int32)).toInt8.toInt32.toInt8.toInt32) ((XT.ushr v (7 : Int32)).toInt8.toInt32.toInt8.toInt32) (s) (s) (s) (s) = ((if s = s then (1 : Int32) else (0 : Int32)) &&& 1) from rfl).trans (by rw [if_pos rfl]; rfl)
  · exact (show fok2 (3 : Int32) (2 : Int32) v s (s) (s) (s) (((v &&& (127 : Int32)) ||| (128 : Int32)).toInt8.toInt32.toInt8.toInt32) ((XT.ushr v (7 : Int32)).toInt8.toInt32.toInt8.toInt32) (s) (s) (s) (s) = ((if s = s then (1 : Int32) else (0 : Int32)) &&& 1) from rfl).trans (by rw [if_pos rfl]; rfl)
  · exact (show fok3 (3 : Int32) (2 : Int32) v s (s) (s) (s) (((v &&& (127 : Int32)) ||| (128 : Int32)).toInt8.toInt32.toInt8.toInt32) ((XT.ushr v (7 : Int32)).toInt8.toInt32.toInt8.toInt32) (s) (s) (s) (s) = ((if ((v &&& (127 : Int32)) ||| (128 : Int32)).toInt8.toInt32.toInt8.toInt32 = (((XT.ushr v (0 : Int32)) &&& (127 : Int32)) ||| (128 : Int32)).toInt8.toInt32 then (1 : Int32) else (0 : Int32)) &&& 1) from rfl).trans (by rw [if_pos (own_e2_0 v)]; rfl)
  · exact (show fok4 (3 : Int32) (2 : Int32) v s (s) (s) (s) (((v &&& (127 : Int32)) ||| (128 : Int32)).toInt8.toInt32.toInt8.toInt32) ((XT.ushr v (7 : Int32)).toInt8.toInt32.toInt8.toInt32) (s) (s) (s) (s) = ((if (XT.ushr v (7 : Int32)).toInt8.toInt32.toInt8.toInt32 = ((XT.ushr v (7 : Int32)) &&& (127 : Int32)).toInt8.toInt32 then (1 : Int32) else (0 : Int32)) &&& 1) from rfl).trans (by rw [if_pos (own_e2_1 v h1)]; rfl)
  · exact (show fok5 (3 : Int32) (2 : Int32) v s (s) (s) (s) (((v &&& (127 : Int32)) ||| (128 : Int32)).toInt8.toInt32.toInt8.toInt32) ((XT.ushr v (7 : Int32)).toInt8.toInt32.toInt8.toInt32) (s) (s) (s) (s) = ((if s = s then (1 : Int32) else (0 : Int32)) &&& 1) from rfl).trans (by rw [if_pos rfl]; rfl)
  · exact (show fok6 (3 : Int32) (2 : Int32) v s (s) (s) (s) (((v &&& (127 : Int32)) ||| (128 : Int32)).toInt8.toInt32.toInt8.toInt32) ((XT.ushr v (7 : Int32)).toInt8.toInt32.toInt8.toInt32) (s) (s) (s) (s) = ((if s = s then (1 : Int32) else (0 : Int32)) &&& 1) from rfl).trans (by rw [if_pos rfl]; rfl)
  · exact (show fok7 (3 : Int32) (2 : Int32) v s (s) (s) (s) (((v &&& (127 : Int32)) ||| (128 : Int32)).toInt8.toInt32.toInt8.toInt32) ((XT.ushr v (7 : Int32)).toInt8.toInt32.toInt8.toInt32) (s) (s) (s) (s) = ((if s = s then (1 : Int32) else (0 : Int32)) &&& 1) from rfl).trans (by rw [if_pos rfl]; rfl)
  · exact (show fok8 (3 : Int32) (2 : Int32) v s (s) (s) (s) (((v &&& (127 : Int32)) ||| (128 : Int32)).toInt8.toInt32.toInt8.toInt32) ((XT.ushr v (7 : Int32)).toInt8.toInt32.toInt8.toInt32) (s) (s) (s) (s) = ((if s = s then (1 : Int32) else (0 : Int32)) &&& 1) from rfl).trans (by rw [if_pos rfl]; rfl)
theorem own_e3_0 (v : Int32) : ((v &&& (127 : Int32)) ||| (128 : Int32)).toInt8.toInt32.toInt8.toInt32 = (((XT.ushr v (0 : Int32)) &&& (127 : Int32)) ||| (128 : Int32)).toInt8.toInt32 := by rw [own_ii, ← own_t0]
theorem own_e3_1 (v : Int32) : (((XT.ushr v (7 : Int32)) &&& (127 : Int32)) ||| (128 : Int32)).toInt8.toInt32.toInt8.toInt32 = (((XT.ushr v (7 : Int32)) &&& (127 : Int32)) ||| (128 : Int32)).toInt8.toInt32 := by rw [own_ii, ← own_t1]
theorem own_e3_2 (v : Int32) (h2 : ((XT.ushr (XT.ushr v (7 : Int32)) (7 : Int32)) &&& (-128 : Int32)) = 0) : (XT.ushr (XT.ushr v (7 : Int32)) (7 : Int32)).toInt8.toInt32.toInt8.toInt32 = ((XT.ushr v (14 : Int32)) &&& (127 : Int32)).toInt8.toInt32 := by rw [own_ii, ← own_t2, own_low _ h2]
theorem own_c3_0 (v s : Int32) (h0 : ¬ ((v &&& (-128 : Int32)) = 0)) (h1 : ¬ (((XT.ushr v (7 : Int32)) &&& (-128 : Int32)) = 0)) (h2 : ((XT.ushr (XT.ushr v (7 : Int32)) (7 : Int32)) &&& (-128 : Int32)) = 0) : f1 (0 : Int32) v s s s s s s s s s = (0 : Int32) + (3 : Int32) ∧ fok0 (0 : Int32) (3 : Int32) v s (f1_x0 (0 : Int32) v s s s s s s s s s) (f1_x1 (0 : Int32) v s s s s s s s s s) (f1_x2 (0 : Int32) v s s s s s s s s s) (f1_x3 (0 : Int32) v s s s s s s s s s) (f1_x4 (0 : Int32) v s s s s s s s s s) (f1_x5 (0 : Int32) v s s s s s s s s s) (f1_x6 (0 : Int32) v s s s s s s s s s) (f1_x7 (0 : Int32) v s s s s s s s s s) (f1_x8 (0 : Int32) v s s s s s s s s s) = 1 ∧ fok1 (0 : Int32) (3 : Int32) v s (f1_x0 (0 : Int32) v s s s s s s s s s) (f1_x1 (0 : Int32) v s s s s s s s s s) (f1_x2 (0 : Int32) v s s s s s s s s s) (f1_x3 (0 : Int32) v s s s s s s s s s) (f1_x4 (0 : Int32) v s s s s s s s s s) (f1_x5 (0 : Int32) v s s s s s s s s s) (f1_x6 (0 : Int32) v s s s s s s s s s) (f1_x7 (0 : Int32) v s s s s s s s s s) (f1_x8 (0 : Int32) v s s s s s s s s s) = 1 ∧ fok2 (0 : Int32) (3 : Int32) v s (f1_x0 (0 : Int32) v s s s s s s s s s) (f1_x1 (0 : Int32) v s s s s s s s s s) (f1_x2 (0 : Int32) v s s s s s s s s s) (f1_x3 (0 : Int32) v s s s s s s s s s) (f1_x4 (0 : Int32) v s s s s s s s s s) (f1_x5 (0 : Int32) v s s s s s s s s s) (f1_x6 (0 : Int32) v s s s s s s s s s) (f1_x7 (0 : Int32) v s s s s s s s s s) (f1_x8 (0 : Int32) v s s s s s s s s s) = 1 ∧ fok3 (0 : Int32) (3 : Int32) v s (f1_x0 (0 : Int32) v s s s s s s s s s) (f1_x1 (0 : Int32) v s s s s s s s s s) (f1_x2 (0 : Int32) v s s s s s s s s s) (f1_x3 (0 : Int32) v s s s s s s s s s) (f1_x4 (0 : Int32) v s s s s s s s s s) (f1_x5 (0 : Int32) v s s s s s s s s s) (f1_x6 (0 : Int32) v s s s s s s s s s) (f1_x7 (0 : Int32) v s s s s s s s s s) (f1_x8 (0 : Int32) v s s s s s s s s s) = 1 ∧ fok4 (0 : Int32) (3 : Int32) v s (f1_x0 (0 : Int32) v s s s s s s s s s) (f1_x1 (0 : Int32) v s s s s s s s s s) (f1_x2 (0 : Int32) v s s s s s s s s s) (f1_x3 (0 : Int32) v s s s s s s s s s) (f1_x4 (0 : Int32) v s s s s s s s s s) (f1_x5 (0 : Int32) v s s s s s s s s s) (f1_x6 (0 : Int32) v s s s s s s s s s) (f1_x7 (0 : Int32) v s s s s s s s s s) (f1_x8 (0 : Int32) v s s s s s s s s s) = 1 ∧ fok5 (0 : Int32) (3 : Int32) v s (f1_x0 (0 : Int32) v s s s s s s s s s) (f1_x1 (0 : Int32) v s s s s s s s s s) (f1_x2 (0 : Int32) v s s s s s s s s s) (f1_x3 (0 : Int32) v s s s s s s s s s) (f1_x4 (0 : Int32) v s s s s s s s s s) (f1_x5 (0 : Int32) v s s s s s s s s s) (f1_x6 (0 : Int32) v s s s s s s s s s) (f1_x7 (0 : Int32) v s s s s s s s s s) (f1_x8 (0 : Int32) v s s s s s s s s s) = 1 ∧ fok6 (0 : Int32) (3 : Int32) v s (f1_x0 (0 : Int32) v s s s s s s s s s) (f1_x1 (0 : Int32) v s s s s s s s s s) (f1_x2 (0 : Int32) v s s s s s s s s s) (f1_x3 (0 : Int32) v s s s s s s s s s) (f1_x4 (0 : Int32) v s s s s s s s s s) (f1_x5 (0 : Int32) v s s s s s s s s s) (f1_x6 (0 : Int32) v s s s s s s s s s) (f1_x7 (0 : Int32) v s s s s s s s s s) (f1_x8 (0 : Int32) v s s s s s s s s s) = 1 ∧ fok7 (0 : Int32) (3 : Int32) v s (f1_x0 (0 : Int32) v s s s s s s s s s) (f1_x1 (0 : Int32) v s s s s s s s s s) (f1_x2 (0 : Int32) v s s s s s s s s s) (f1_x3 (0 : Int32) v s s s s s s s s s) (f1_x4 (0 : Int32) v s s s s s s s s s) (f1_x5 (0 : Int32) v s s s s s s s s s) (f1_x6 (0 : Int32) v s s s s s s s s s) (f1_x7 (0 : Int32) v s s s s s s s s s) (f1_x8 (0 : Int32) v s s s s s s s s s) = 1 ∧ fok8 (0 : Int32) (3 : Int32) v s (f1_x0 (0 : Int32) v s s s s s s s s s) (f1_x1 (0 : Int32) v s s s s s s s s s) (f1_x2 (0 : Int32) v s s s s s s s s s) (f1_x3 (0 : Int32) v s s s s s s s s s) (f1_x4 (0 : Int32) v s s s s s s s s s) (f1_x5 (0 : Int32) v s s s s s s s s s) (f1_x6 (0 : Int32) v s s s s s s s s s) (f1_x7 (0 : Int32) v s s s s s s s s s) (f1_x8 (0 : Int32) v s s s s s s s s s) = 1 := by
  have x0 : f1_x0 (0 : Int32) v s s s s s s s s s = ((v &&& (127 : Int32)) ||| (128 : Int32)).toInt8.toInt32.toInt8.toInt32 := by simp only [f1_x0, if_neg h0, if_neg h1, if_pos h2]; rfl
  have x1 : f1_x1 (0 : Int32) v s s s s s s s s s = (((XT.ushr v (7 : Int32)) &&& (127 : Int32)) ||| (128 : Int32)).toInt8.toInt32.toInt8.toInt32 := by simp only [f1_x1, if_neg h0, if_neg h1, if_pos h2]; rfl
  have x2 : f1_x2 (0 : Int32) v s s s s s s s s s = (XT.ushr (XT.ushr v (7 : Int32)) (7 : Int32)).toInt8.toInt32.toInt8.toInt32 := by simp only [f1_x2, if_neg h0, if_neg h1, if_pos h2]; rfl
  have x3 : f1_x3 (0 : Int32) v s s s s s s s s s = s := by simp only [f1_x3, if_neg h0, if_neg h1, if_pos h2]; rfl
  have x4 : f1_x4 (0 : Int32) v s s s s s s s s s = s := by simp only [f1_x4, if_neg h0, if_neg h1, if_pos h2]; rfl
  have x5 : f1_x5 (0 : Int32) v s s s s s s s s s = s := by simp only [f1_x5, if_neg h0, if_neg h1, if_pos h2]; rfl
  have x6 : f1_x6 (0 : Int32) v s s s s s s s s s = s := by simp only [f1_x6, if_neg h0, if_neg h1, if_pos h2]; rfl
  have x7 : f1_x7 (0 : Int32) v s s s s s s s s s = s := by simp only [f1_x7, if_neg h0, if_neg h1, if_pos h2]; rfl
  have x8 : f1_x8 (0 : Int32) v s s s s s s s s s = s := by simp only [f1_x8, if_neg h0, if_neg h1, if_pos h2]; rfl
  rw [x0, x1, x2, x3, x4, x5, x6, x7, x8]
  refine ⟨by simp only [f1, if_neg h0, if_neg h1, if_pos h2]; try rfl, ?_, ?_, ?_, ?_, ?_, ?_, ?_, ?_, ?_⟩
  · exact (show fok0 (0 : Int32) (3 : Int32) v s (((v &&& (127 : Int32)) ||| (128 : Int32)).toInt8.toInt32.toInt8.toInt32) ((((XT.ushr v (7 : Int32)) &&& (127 : Int32)) ||| (128 : Int32)).toInt8.toInt32.toInt8.toInt32) ((XT.ushr (XT.ushr v (7 : Int32)) (7 : Int32)).toInt8.toInt32.toInt8.toInt32) (s) (s) (s) (s) (s) (s) = ((if ((v &&& (127 : Int32)) ||| (128 : Int32)).toInt8.toInt32.toInt8.toInt32 = (((XT.ushr v (0 : Int32)) &&& (127 : Int32)) ||| (128 : Int32)).toInt8.toInt32 then (1 : Int32) else (0 : Int32)) &&& 1) from rfl).trans (by rw [if_pos (own_e3_0 v)]; rfl)
  · exact (show fok1 (0 : Int32) (3 : Int32) v s (((v &&& (127 : Int32)) ||| (128 : Int32)).toInt8.toInt32.toInt8.toInt32) ((((XT.ushr v (7 : Int32)) &&& (127 : Int32)) ||| (128 : Int32)).toInt8.toInt32.toInt8.toInt32) ((XT.ushr (XT.ushr v (7 : Int32)) (7 : Int32)).toInt8.toInt32.toInt8.toInt32) (s) (s) (s) (s) (s) (s) = ((if (((XT.ushr v (7 : Int32)) &&& (127 : Int32)) ||| (128 : Int32)).toInt8.toInt32.toInt8.toInt32 = (((XT.ushr v (7 : Int32)) &&& (127 : Int32)) ||| (128 : Int32)).toInt8.toInt32 then (1 : Int32) else (0 : Int32)) &&& 1) from rfl).trans (by rw [if_pos (own_e3_1 v)]; rfl)
  · exact (show fok2 (0 : Int32) (3 : Int32) v s (((v &&& (127 : Int32)) ||| (128 : Int32)).toInt8.toInt32.toInt8.toInt32) ((((XT.ushr v (7 : Int32)) &&& (127 : Int32)) ||| (128 : Int32)).toInt8.toInt32.toInt8.toInt32) ((XT.ushr (XT.ushr v (7 : Int32)) (7 : Int32)).toInt8.toInt32.toInt8.toInt32) (s) (s) (s) (s) (s) (s) = ((if (XT.ushr (XT.ushr v (7 : Int32)) (7 : Int32)).toInt8.toInt32.toInt8.toInt32 = ((XT.ushr v (14 : Int32)) &&& (127 : Int32)).toInt8.toInt32 then (1 : Int32) else (0 : Int32)) &&& 1) from rfl).trans (by rw [if_pos (own_e3_2 v h2)]; rfl)
  · exact (show fok3 (0 : Int32) (3 : Int32) v s (((v &&& (127 : Int32)) ||| (128 : Int32)).toInt8.toInt32.toInt8.toInt32) ((((XT.ushr v (7 : Int32)) &&& (127 : Int32)) ||| (128 : Int32)).toInt8.toInt32.toInt8.toInt32) ((XT.ushr (XT.ushr v (7 : Int32)) (7 : Int32)).toInt8.toInt32.toInt8.toInt32) (s) (s) (s) (s) (s) (s) = ((if s = s then (1 : Int32) else (0 : Int32)) &&& 1) from rfl).trans (by rw [if_pos rfl]; rfl)
  · exact (show fok4 (0 : Int32) (3 : Int32) v s (((v &&& (127 : Int32)) ||| (128 : Int32)).toInt8.toInt32.toInt8.toInt32) ((((XT.ushr v (7 : Int32)) &&& (127 : Int32)) ||| (128 : Int32)).toInt8.toInt32.toInt8.toInt32) ((XT.ushr (XT.ushr v (7 : Int32)) (7 : Int32)).toInt8.toInt32.toInt8.toInt32) (s) (s) (s) (s) (s) (s) = ((if s = s then (1 : Int32) else (0 : Int32)) &&& 1) from rfl).trans (by rw [if_pos rfl]; rfl)
  · exact (show fok5 (0 : Int32) (3 : Int32) v s (((v &&& (127 : Int32)) ||| (128 : Int32)).toInt8.toInt32.toInt8.toInt32) ((((XT.ushr v (7 : Int32)) &&& (127 : Int32)) ||| (128 : Int32)).toInt8.toInt32.toInt8.toInt32) ((XT.ushr (XT.ushr v (7 : Int32)) (7 : Int32)).toInt8.toInt32.toInt8.toInt32) (s) (s) (s) (s) (s) (s) = ((if s = s then (1 : Int32) else (0 : Int32)) &&& 1) from rfl).trans (by rw [if_pos rfl]; rfl)
  · exact (show fok6 (0 : Int32) (3 : Int32) v s (((v &&& (127 : Int32)) ||| (128 : Int32)).toInt8.toInt32.toInt8.toInt32) ((((XT.ushr v (7 : Int32)) &&& (127 : Int32)) ||| (128 : Int32)).toInt8.toInt32.toInt8.toInt32) ((XT.ushr (XT.ushr v (7 : Int32)) (7 : Int32)).toInt8.toInt32.toInt8.toInt32) (s) (s) (s) (s) (s) (s) = ((if s = s then (1 : Int32) else (0 : Int32)) &&& 1) from rfl).trans (by rw [if_pos rfl]; rfl)
  · exact (show fok7 (0 : Int32) (3 : Int32) v s (((v &&& (127 : Int32)) ||| (128 : Int32)).toInt8.toInt32.toInt8.toInt32) ((((XT.ushr v (7 : Int32)) &&& (127 : Int32)) ||| (128 : Int32)).toInt8.toInt32.toInt8.toInt32) ((XT.ushr (XT.ushr v (7 : Int32)) (7 : Int32)).toInt8.toInt32.toInt8.toInt32) (s) (s) (s) (s) (s) (s) = ((if s = s then (1 : Int32) else (0 : Int32)) &&& 1) from rfl).trans (by rw [if_pos rfl]; rfl)
  · exact (show fok8 (0 : Int32) (3 : Int32) v s (((v &&& (127 : Int32)) ||| (128 : Int32)).toInt8.toInt32.toInt8.toInt32) ((((XT.ushr v (7 : Int32)) &&& (127 : Int32)) ||| (128 : Int32)).toInt8.toInt32.toInt8.toInt32) ((XT.ushr (XT.ushr v (7 : Int32)) (7 : Int32)).toInt8.toInt32.toInt8.toInt32) (s) (s) (s) (s) (s) (s) = ((if s = s then (1 : Int32) else (0 : Int32)) &&& 1) from rfl).trans (by rw [if_pos rfl]; rfl)
theorem own_c3_1 (v s : Int32) (h0 : ¬ ((v &&& (-128 : Int32)) = 0)) (h1 : ¬ (((XT.ushr v (7 : Int32)) &&& (-128 : Int32)) = 0)) (h2 : ((XT.ushr (XT.ushr v (7 : Int32)) (7 : Int32)) &&& (-128 : Int32)) = 0) : f1 (1 : Int32) v s s s s s s s s s = (1 : Int32) + (3 : Int32) ∧ fok0 (1 : Int32) (3 : Int32) v s (f1_x0 (1 : Int32) v s s s s s s s s s) (f1_x1 (1 : Int32) v s s s s s s s s s) (f1_x2 (1 : Int32) v s s s s s s s s s) (f1_x3 (1 : Int32) v s s s s s s s s s) (f1_x4 (1 : Int32) v s s s s s s s s s) (f1_x5 (1 : Int32) v s s s s s s s s s) (f1_x6 (1 : Int32) v s s s s s s s s s) (f1_x7 (1 : Int32) v s s s s s s s s s) (f1_x8 (1 : Int32) v s s s s s s s s s) = 1 ∧ fok1 (1 : Int32) (3 : Int32) v s (f1_x0 (1 : Int32) v s s s s s s s s s) (f1_x1 (1 : Int32) v s s s s s s s s s) (f1_x2 (1 : Int32) v s s s s s s s s s) (f1_x3 (1 : Int32) v s s s s s s s s s) (f1_x4 (1 : Int32) v s s s s s s s s s) (f1_x5 (1 : Int32) v s s s s s s s s s) (f1_x6 (1 : Int32) v s s s s s s s s s) (f1_x7 (1 : Int32) v s s s s s s s s s) (f1_x8 (1 : Int32) v s s s s s s s s s) = 1 ∧ fok2 (1 : Int32) (3 : Int32) v s (f1_x0 (1 : Int32) v s s s s s s s s s) (f1_x1 (1 : Int32) v s s s s s s s s s) (f1_x2 (1 : Int32) v s s s s s s s s s) (f1_x3 (1 : Int32) v s s s s s s s s s) (f1_x4 (1 : Int32) v s s s s s s s s s) (f1_x5 (1 : Int32) v s s s s s s s s s) (f1_x6 (1 : Int32) v s s s s s s s s s) (f1_x7 (1 : Int32) v s s s s s s s s s) (f1_x8 (1 : Int32) v s s s s s s s s s) = 1 ∧ fok3 (1 : Int32) (3 : Int32) v s (f1_x0 (1 : Int32) v s s s s s s s s s) (f1_x1 (1 : Int32) v s s s s s s s s s) (f1_x2 (1 : Int32) v s s s s s s s s s) (f1_x3 (1 : Int32) v s s s s s s s s s) (f1_x4 (1 : Int32) v s s s s s s s s s) (f1_x5 (1 : Int32) v s s s s s s s s s) (f1_x6 (1 : Int32) v s s s s s s s s s) (f1_x7 (1 : Int32) v s s s s s s s s s) (f1_x8 (1 : Int32) v s s s s s s s s s) = 1 ∧ fok4 (1 : Int32) (3 : Int32) v s (f1_x0 (1 : Int32) v s s s s s s s s s) (f1_x1 (1 : Int32) v s s s s s s s s s) (f1_x2 (1 : Int32) v s s s s s s s s s) (f1_x3 (1 : Int32) v s s s s s s s s s) (f1_x4 (1 : Int32) v s s s s s s s s s) (f1_x5 (1 : Int32) v s s s s s s s s s) (f1_x6 (1 : Int32) v s s s s s s s s s) (f1_x7 (1 : Int32) v s s s s s s s s s) (f1_x8 (1 : Int32) v s s s s s s s s s) = 1 ∧ fok5 (1 : Int32) (3 : Int32) v s (f1_x0 (1 : Int32) v s s s s s s s s s) (f1_x1 (1 : Int32) v s s s s s s s s s) (f1_x2 (1 : Int32) v s s s s s s s s s) (f1_x3 (1 : Int32) v s s s s s s s s s) (f1_x4 (1 : Int32) v s s s s s s s s s) (f1_x5 (1 : Int32) v s s s s s s s s s) (f1_x6 (1 : Int32) v s s s s s s s s s) (f1_x7 (1 : Int32) v s s s s s s s s s) (f1_x8 (1 : Int32) v s s s s s s s s s) = 1 ∧ fok6 (1 : Int32) (3 : Int32) v s (f1_x0 (1 : Int32) v s s s s s s s s s) (f1_x1 (1 : Int32) v s s s s s s s s s) (f1_x2 (1 : Int32) v s s s s s s s s s) (f1_x3 (1 : Int32) v s s s s s s s s s) (f1_x4 (1 : Int32) v s s s s s s s s s) (f1_x5 (1 : Int32) v s s s s s s s s s) (f1_x6 (1 : Int32) v s s s s s s s s s) (f1_x7 (1 : Int32) v s s s s s s s s s) (f1_x8 (1 : Int32) v s s s s s s s s s) = 1 ∧ fok7 (1 : Int32) (3 : Int32) v s (f1_x0 (1 : Int32) v s s s s s s s s s) (f1_x1 (1 : Int32) v s s s s s s s s s) (f1_x2 (1 : Int32) v s s s s s s s s s) (f1_x3 (1 : Int32) v s s s s s s s s s) (f1_x4 (1 : Int32) v s s s s s s s s s) (f1_x5 (1 : Int32) v s s s s s s s s s) (f1_x6 (1 : Int32) v s s s s s s s s s) (f1_x7 (1 : Int32) v s s s s s s s s s) (f1_x8 (1 : Int32) v s s s s s s s s s) = 1 ∧ fok8 (1 : Int32) (3 : Int32) v s (f1_x0 (1 : Int32) v s s s s s s s s s) (f1_x1 (1 : Int32) v s s s s s s s s s) (f1_x2 (1 : Int32) v s s s s s s s s s) (f1_x3 (1 : Int32) v s s s s s s s s s) (f1_x4 (1 : Int32) v s s s s s s s s s) (f1_x5 (1 : Int32) v s s s s s s s s s) (f1_x6 (1 : Int32) v s s s s s s s s s) (f1_x7 (1 : Int32) v s s s s s s s s s) (f1_x8 (1 : Int32) v s s s s s s s s s) = 1 := by
  have x0 : f1_x0 (1 : Int32) v s s s s s s s s s = s := by simp only [f1_x0, if_neg h0, if_neg h1, if_pos h2]; rfl
  have x1 : f1_x1 (1 : Int32) v s s s s s s s s s = ((v &&& (127 : Int32)) ||| (128 : Int32)).toInt8.toInt32.toInt8.toInt32 := by simp only [f1_x1, if_neg h0, if_neg h1, if_pos h2]; rfl
  have x2 : f1_x2 (1 : Int32) v s s s s s s s s s = (((XT.ushr v (7 : Int32)) &&& (127 : Int32)) ||| (128 : Int32)).toInt8.toInt32.toInt8.toInt32 := by simp only [f1_x2, if_neg h0, if_neg h1, if_pos h2]; rfl
  have x3 : f1_x3 (1 : Int32) v s s s s s s s s s = (XT.ushr (XT.ushr v (7 : Int32)) (7 : Int32)).toInt8.toInt32.toInt8.toInt32 := by simp only [f1_x3, if_neg h0, if_neg h1, if_pos h2]; rfl
  have x4 : f1_x4 (1 : Int32) v s s s s s s s s s = s := by simp only [f1_x4, if_neg h0, if_neg h1, if_pos h2]; rfl
  have x5 : f1_x5 (1 : Int32) v s s s s s s s s s = s := by simp only [f1_x5, if_neg h0, if_neg h1, if_pos h2]; rfl
  have x6 : f1_x6 (1 : Int32) v s s s s s s s s s = s := by simp only [f1_x6, if_neg h0, if_neg h1, if_pos h2]; rfl
  have x7 : f1_x7 (1 : Int32) v s s s s s s s s s = s := by simp only [f1_x7, if_neg h0, if_neg h1, if_pos h2]; rfl
  have x8 : f1_x8 (1 : Int32) v s s s s s s s s s = s := by simp only [f1_x8, if_neg h0, if_neg h1, if_pos h2]; rfl
  rw [x0, x1, x2, x3, x4, x5, x6, x7, x8]
  refine ⟨by simp only [f1, if_neg h0, if_neg h1, if_pos h2]; try rfl, ?_, ?_, ?_, ?_, ?_, ?_, ?_, ?_, ?_⟩
  · exact (show fok0 (1 : Int32) (3 : Int32) v s (s) (((v &&& (127 : Int32)) ||| (128 : Int32)).toInt8.toInt32.toInt8.toInt32) ((((XT.ushr v (7 : Int32)) &&& (127 : Int32)) ||| (128 : Int32)).toInt8.toInt32.toInt8.toInt32) ((XT.ushr (XT.ushr v (7 : Int32)) (7 : Int32)).toInt8.toInt32.toInt8.toInt32) (s) (s) (s) (s) (s) = ((if s = s then (1 : Int32) else (0 : Int32)) &&& 1) from rfl).trans (by rw [if_pos rfl]; rfl)
  · exact (show fok1 (1 : Int32) (3 : Int32) v s (s) (((v &&& (127 : Int32)) ||| (128 : Int32)).toInt8.toInt32.toInt8.toInt32) ((((XT.ushr v (7 : Int32)) &&& (127 : Int32)) ||| (128 : Int32)).toInt8.toInt32.toInt8.toInt32) ((XT.ushr (XT.ushr v (7 : Int32)) (7 : Int32)).toInt8.toInt32.toInt8.toInt32) (s) (s) (s) (s) (s) = ((if ((v &&& (127 : Int32)) ||| (128 : Int32)).toInt8.toInt32.toInt8.toInt32 = (((XT.ushr v (0 : Int32)) &&& (127 : Int32)) ||| (128 : Int32)).toInt8.toInt32 then (1 : Int32) else (0 : Int32)) &&& 1) from rfl).trans (by rw [if_pos (own_e3_0 v)]; rfl)
  · exact (show fok2 (1 : Int32) (3 : Int32) v s (s) (((v &&& (127 : Int32)) ||| (128 : Int32)).toInt8.toInt32.toInt8.toInt32) ((((XT.ushr v (7 : Int32)) &&& (127 : Int32)) ||| (128 : Int32)).toInt8.toInt32.toInt8.toInt32) ((XT.ushr (XT.ushr v (7 : Int32)) (7 : Int32)).toInt8.toInt32.toInt8.toInt32) (s) (s) (s) (s) (s) = ((if (((XT.ushr v (7 : Int32)) &&& (127 : Int32)) ||| (128 : Int32)).toInt8.toInt32.toInt8.toInt32 = (((XT.ushr v (7 : Int32)) &&& (127 : Int32)) ||| (128 : Int32)).toInt8.toInt32 then (1 : Int32) else (0 : Int32)) &&& 1) from rfl).trans (by rw [if_pos (own_e3_1 v)]; rfl)
  · exact (show fok3 (1 : Int32) (3 : Int32) v s (s) (((v &&& (127 : Int32)) ||| (128 : Int32)).toInt8.toInt32.toInt8.toInt32) ((((XT.ushr v (7 : Int32)) &&& (127 : Int32)) ||| (128 : Int32)).toInt8.toInt32.toInt8.toInt32) ((XT.ushr (XT.ushr v (7 : Int32)) (7 : Int32)).toInt8.toInt32.toInt8.toInt32) (s) (s) (s) (s) (s) = ((if (XT.ushr (XT.ushr v (7 : Int32)) (7 : Int32)).toInt8.toInt32.toInt8.toInt32 = ((XT.ushr v (14 : Int32)) &&& (127 : Int32)).toInt8.toInt32 then (1 : Int32) else (0 : Int32)) &&& 1) from rfl).trans (by rw [if_pos (own_e3_2 v h2)]; rfl)
  · exact (show fok4 (1 : Int32) (3 : Int32) v s (s) (((v &&& (127 : Int32)) ||| (128 : Int32)).toInt8.toInt32.toInt8.toInt32) ((((XT.ushr v (7 : Int32)) &&& (127 : Int32)) ||| (128 : Int32)).toInt8.toInt32.toInt8.toInt32) ((XT.ushr (XT.ushr v (7 : Int32)) (7 : Int32)).toInt8.toInt32.toInt8.toInt32) (s) (s) (s) (s) (s) = ((if s = s then (1 : Int32) else (0 : Int32)) &&& 1) from rfl).trans (by rw [if_pos rfl]; rfl)
  · exact (show fok5 (1 : Int32) (3 : Int32) v s (s) (((v &&& (127 : Int32)) ||| (128 : Int32)).toInt8.toInt32.toInt8.toInt32) ((((XT.ushr v (7 : Int32)) &&& (127 : Int32)) ||| (128 : Int32)).toInt8.toInt32.toInt8.toInt32) ((XT.ushr (XT.ushr v (7 : Int32)) (7 : Int32)).toInt8.toInt32.toInt8.toInt32) (s) (s) (s) (s) (s) = ((if s = s then (1 : Int32) else (0 : Int32)) &&& 1) from rfl).trans (by rw [if_pos rfl]; rfl)
  · exact (show fok6 (1 : Int32) (3 : Int32) v s (s) (((v &&& (127 : Int32)) ||| (128 : Int32)).toInt8.toInt32.toInt8.toInt32) ((((XT.ushr v (7 : Int32)) &&& (127 : Int32)) ||| (128 : Int32)).toInt8.toInt32.toInt8.toInt32) ((XT.ushr (XT.ushr v (7 : Int32)) (7 : Int32)).toInt8.toInt32.toInt8.toInt32) (s) (s) (s) (s) (s) = ((if s = s then (1 : Int32) else (0 : Int32)) &&& 1) from rfl).trans (by rw [if_pos rfl]; rfl)
  · exact (show fok7 (1 : Int32) (3 : Int32) v s (s) (((v &&& (127 : Int32)) ||| (128 : Int32)).toInt8.toInt32.toInt8.toInt32) ((((XT.ushr v (7 : Int32)) &&& (127 : Int32)) ||| (128 : Int32)).toInt8.toInt32.toInt8.toInt32) ((XT.ushr (XT.ushr v (7 : Int32)) (7 : Int32)).toInt8.toInt32.toInt8.toInt32) (s) (s) (s) (s) (s) = ((if s = s then (1 : Int32) else (0 : Int32)) &&& 1) from rfl).trans (by rw [if_pos rfl]; rfl)
  · exact (show fok8 (1 : Int32) (3 : Int32) v s (s) (((v &&& (127 : Int32)) ||| (128 : Int32)).toInt8.toInt32.toInt8.toInt32) ((((XT.ushr v (7 : Int32)) &&& (127 : Int32)) ||| (128 : Int32)).toInt8.toInt32.toInt8.toInt32) ((XT.ushr (XT.ushr v (7 : Int32)) (7 : Int32)).toInt8.toInt32.toInt8.toInt32) (s) (s) (s) (s) (s) = ((if s = s then (1 : Int32) else (0 : Int32)) &&& 1) from rfl).trans (by rw [if_pos rfl]; rfl)
theorem own_c3_2 (v s : Int32) (h0 : ¬ ((v &&& (-128 : Int32)) = 0)) (h1 : ¬ (((XT.ushr v (7 : Int32)) &&& (-128 : Int32)) = 0)) (h2 : ((XT.ushr (XT.ushr v (7 : Int32)) (7 : Int32)) &&& (-128 : Int32)) = 0) : f1 (2 : Int32) v s s s s s s s s s = (2 : Int32) + (3 : Int32) ∧ fok0 (2 : Int32) (3 : Int32) v s (f1_x0 (2 : Int32) v s s s s s s s s s) (f1_x1 (2 : Int32) v s s s s s s s s s) (f1_x2 (2 : Int32) v s s s s s s s s s) (f1_x3 (2 : Int32) v s s s s s s s s s) (f1_x4 (2 : Int32) v s s s s s s s s s) (f1_x5 (2 : Int32) v s s s s s s s s s) (f1_x6 (2 : Int32) v s s s s s s s s s) (f1_x7 (2 : Int32) v s s s s s s s s s) (f1_x8 (2 : Int32) v s s s s s s s s s) = 1 ∧ fok1 (2 : Int32) (3 : Int32) v s (f1_x0 (2 : Int32) v s s s s s s s s s) (f1_x1 (2 : Int32) v s s s s s s s s s) (f1_x2 (2 : Int32) v s s s s s s s s s) (f1_x3 (2 : Int32) v s s s s s s s s s) (f1_x4 (2 : Int32) v s s s s s s s s s) (f1_x5 (2 : Int32) v s s s s s s s s s) (f1_x6 (2 : Int32) v s s s s s s s s s) (f1_x7 (2 : Int32) v s s s s s s s s s) (f1_x8 (2 : Int32) v s s s s s s s s s) = 1 ∧ fok2 (2 : Int32) (3 : Int32) v s (f1_x0 (2 : Int32) v s s s s s s s s s) (f1_x1 (2 : Int32) v s s s s s s s s s) (f1_x2 (2 : Int32) v s s s s s s s s s) (f1_x3 (2 : Int32) v s s s s s s s s s) (f1_x4 (2 : Int32) v s s s s s s s s s) (f1_x5 (2 : Int32) v s s s s s s s s s) (f1_x6 (2 : Int32) v s s s s s s s s s) (f1_x7 (2 : Int32) v s s s s s s s s s) (f1_x8 (2 : Int32) v s s s s s s s s s) = 1 ∧ fok3 (2 : Int32) (3 : Int32) v s (f1_x0 (2 : Int32) v s s s s s s s s s) (f1_x1 (2 : Int32) v s s s s s s s s s) (f1_x2 (2 : Int32) v s s s s s s s s s) (f1_x3 (2 : Int32) v s s s s s s s s s) (f1_x4 (2 : Int32) v s s s s s s s s s) (f1_x5 (2 : Int32) v s s s s s s s s s) (f1_x6 (2 : Int32) v s s s s s s s s s) (f1_x7 (2 : Int32) v s s s s s s s s s) (f1_x8 (2 : Int32) v s s s s s s s s s) = 1 ∧ fok4 (2 : Int32) (3 : Int32) v s (f1_x0 (2 : Int32) v s s s s s s s s s) (f1_x1 (2 : Int32) v s s s s s s s s s) (f1_x2 (2 : Int32) v s s s s s s s s s) (f1_x3 (2 : Int32) v s s s s s s s s s) (f1_x4 (2 : Int32) v s s s s s s s s s) (f1_x5 (2 : Int32) v s s s s s s s s s) (f1_x6 (2 : Int32) v s s s s s s s s s) (f1_x7 (2 : Int32) v s s s s s s s s s) (f1_x8 (2 : Int32) v s s s s s s s s s) = 1 ∧ fok5 (2 : Int32) (3 : Int32) v s (f1_x0 (2 : Int32) v s s s s s s s s s) (f1_x1 (2 : Int32) v s s s s s s s s s) (f1_x2 (2 : Int32) v s s s s s s s s s) (f1_x3 (2 : Int32) v s s s s s s s s s) (f1_x4 (2 : Int32) v s s s s s s s s s) (f1_x5 (2 : Int32) v s s s s s s s s s) (f1_x6 (2 : Int32) v s s s s s s s s s) (f1_x7 (2 : Int32) v s s s s s s s s s) (f1_x8 (2 : Int32) v s s s s s s s s s) = 1 ∧ fok6 (2 : Int32) (3 : Int32) v s (f1_x0 (2 : Int32) v s s s s s s s s s) (f1_x1 (2 : Int32) v s s s s s s s s s) (f1_x2 (2 : Int32) v s s s s s s s s s) (f1_x3 (2 : Int32) v s s s s s s s s s) (f1_x4 (2 : Int32) v s s s s s s s s s) (f1_x5 (2 : Int32) v s s s s s s s s s) (f1_x6 (2 : Int32) v s s s s s s s s s) (f1_x7 (2 : Int32) v s s s s s s s s s) (f1_x8 (2 : Int32) v s s s s s s s s s) = 1 ∧ fok7 (2 : Int32) (3 : Int32) v s (f1_x0 (2 : Int32) v s s s s s s s s s) (f1_x1 (2 : Int32) v s s s s s s s s s) (f1_x2 (2 : Int32) v s s s s s s s s s) (f1_x3 (2 : Int32) v s s s s s s s s s) (f1_x4 (2 : Int32) v s s s s s s s s s) (f1_x5 (2 : Int32) v s s s s s s s s s) (f1_x6 (2 : Int32) v s s s s s s s s s) (f1_x7 (2 : Int32) v s s s s s s s s s) (f1_x8 (2 : Int32) v s s s s s s s s s) = 1 ∧ fok8 (2 : Int32) (3 : Int32) v s (f1_x0 (2 : Int32) v s s s s s s s s s) (f1_x1 (2 : Int32) v s s s s s s s s s) (f1_x2 (2 : Int32) v s s s s s s s s s) (f1_x3 (2 : Int32) v s s s s s s s s s) (f1_x4 (2 : Int32) v s s s s s s s s s) (f1_x5 (2 : Int32) v s s s s s s s s s) (f1_x6 (2 : Int32) v s s s s s s s s s) (f1_x7 (2 : Int32) v s s s s s s s s s) (f1_x8 (2 : Int32) v s s s s s s s s s) = 1 := by
  have x0 : f1_x0 (2 : Int32) v s s s s s s s s s = s := by simp only [f1_x0, if_neg h0, if_neg h1, if_pos h2]; rfl
  have x1 : f1_x1 (2 : Int32) v s s s s s s s s s = s := by simp only [f1_x1, if_neg h0, if_neg h1, if_pos h2]; rfl
  have x2 : f1_x2 (2 : Int32) v s s s s s s s s s = ((v &&& (127 : Int32)) ||| (128 : Int32)).toInt8.toInt32.toInt8.toInt32 := by simp only [f1_x2, if_neg h0, if_neg h1, if_pos h2]; rfl
  have x3 : f1_x3 (2 : Int32) v s s s s s s s s s = (((XT.ushr v (7 : Int32)) &&& (127 : Int32)) ||| (128 : Int32)).toInt8.toInt32.toInt8.toInt32 := by simp only [f1_x3, if_neg h0, if_neg h1, if_pos h2]; rfl
  have x4 : f1_x4 (2 : Int32) v s s s s s s s s s = (XT.ushr (XT.ushr v (7 : Int32)) (7 : Int32)).toInt8.toInt32.toInt8.toInt32 := by simp only [f1_x4, if_neg h0, if_neg h1, if_pos h2]; rfl
  have x5 : f1_x5 (2 : Int32) v s s s s s s s s s = s := by simp only [f1_x5, if_neg h0, if_neg h1, if_pos h2]; rfl
  have x6 : f1_x6 (2 : Int32) v s s s s s s s s s = s := by simp only [f1_x6, if_neg h0, if_neg h1, if_pos h2]; rfl
  have x7 : f1_x7 (2 : Int32) v s s s s s s s s s = s := by simp only [f1_x7, if_neg h0, if_neg h1, if_pos h2]; rfl
  have x8 : f1_x8 (2 : Int32) v s s s s s s s s s = s := by simp only [f1_x8, if_neg h0, if_neg h1, if_pos h2]; rfl
  rw [x0, x1, x2, x3, x4, x5, x6, x7, x8]
  refine ⟨by simp only [f1, if_neg h0, if_neg h1, if_pos h2]; try rfl, ?_, ?_, ?_, ?_, ?_, ?_, ?_, ?_, ?_⟩
  · exact (show fok0 (2 : Int32) (3 : Int32) v s (s) (s) (((v &&& (127 : Int32)) ||| (128 : Int32)).toInt8.toInt32.toInt8.toInt32) ((((XT.ushr v (7 : Int32)) &&& (127 : Int32)) ||| (128 : Int32)).toInt8.toInt32.toInt8.toInt32) ((XT.ushr (XT.ushr v (7 : Int32)) (7 : Int32)).toInt8.toInt32.toInt8.toInt32) (s) (s) (s) (s) = ((if s = s then (1 : Int32) else (0 : Int32)) &&& 1) from rfl).trans (by rw [if_pos rfl]; rfl)
  · exact (show fok1 (2 : Int32) (3 : Int32) v s (s) (s) (((v &&& (127 : Int32)) ||| (128 : Int32)).toInt8.toInt32.toInt8.toInt32) ((((XT.ushr v (7 : Int32)) &&& (127 : Int32)) ||| (128 : Int32)).toInt8.toInt32.toInt8.toInt32) ((XT.ushr (XT.ushr v (7 : Int32)) (7 : Int32)).toInt8.toInt32.toInt8.toInt32) (s) (s) (s) (s) = ((if s = s then (1 : Int32) else (0 : Int32)) &&& 1) from rfl).trans (by rw [if_pos rfl]; rfl)
  · exact (show fok2 (2 : Int32) (3 : Int32) v s (s) (s) (((v &&& (127 : Int32)) ||| (128 : Int32)).toInt8.toInt32.toInt8.toInt32) ((((XT.ushr v (7 : Int32)) &&& (127 : Int32)) ||| (128 : Int32)).toInt8.toInt32.toInt8.toInt32) ((XT.ushr (XT.ushr v (7 : Int32)) (7 : Int32)).toInt8.toInt32.toInt8.toInt32) (s) (s) (s) (s) = ((if ((v &&& (127 : Int32)) ||| (128 : Int32)).toInt8.toInt32.toInt8.toInt32 = (((XT.ushr v (0 : Int32)) &&& (127 : Int32)) ||| (128 : Int32)).toInt8.toInt32 then (1 : Int32) else (0 : Int32)) &&& 1) from rfl).trans (by rw [if_pos (own_e3_0 v)]; rfl)
  · exact (show fok3 (2 : Int32) (3 : Int32) v s (s) (s) (((v &&& (127 : Int32)) ||| (128 : Int32)).toInt8.toInt32.toInt8.toInt32) ((((XT.ushr v (7 : Int32)) &&& (127 : Int32)) ||| (128 : Int32)).toInt8.toInt32.toInt8.toInt32) ((XT.ushr (XT.ushr v (7 : Int32)) (7 : Int32)).toInt8.toInt32.toInt8.toInt32) (s) (s) (s) (s) = ((if (((XT.ushr v (7 : Int32)) &&& (127 : Int32)) ||| (128 : Int32)).toInt8.toInt32.toInt8.toInt32 = (((XT.ushr v (7 : Int32)) &&& (127 : Int32)) ||| (128 : Int32)).toInt8.toInt32 then (1 : Int32) else (0 : Int32)) &&& 1) from rfl).trans (by rw [if_pos (own_e3_1 v)]; rfl)
  · exact (show fok4 (2 : Int32) (3 : Int32) v s (s) (s) (((v &&& (127 : Int32)) ||| (128 : Int32)).toInt8.toInt32.toInt8.toInt32) ((((XT.ushr v (7 : Int32)) &&& (127 : Int32)) ||| (128 : Int32)).toInt8.toInt32.toInt8.toInt32) ((XT.ushr (XT.ushr v (7 : Int32)) (7 : Int32)).toInt8.toInt32.toInt8.toInt32) (s) (s) (s) (s) = ((if (XT.ushr (XT.ushr v (7 : Int32)) (7 : Int32)).toInt8.toInt32.toInt8.toInt32 = ((XT.ushr v (14 : Int32)) &&& (127 : Int32)).toInt8.toInt32 then (1 : Int32) else (0 : Int32)) &&& 1) from rfl).trans (by rw [if_pos (own_e3_2 v h2)]; rfl)
  · exact (show fok5 (2 : Int32) (3 : Int32) v s (s) (s) (((v &&& (127 : Int32)) ||| (128 : Int32)).toInt8.toInt32.toInt8.toInt32) ((((XT.ushr v (7 : Int32)) &&& (127 : Int32)) ||| (128 : Int32)).toInt8.toInt32.toInt8.toInt32) ((XT.ushr (XT.ushr v (7 : Int32)) (7 : Int32)).toInt8.toInt32.toInt8.toInt32) (s) (s) (s) (s) = ((if s = s then (1 : Int32) else (0 : Int32)) &&& 1) from rfl).trans (by rw [if_pos rfl]; rfl)
  · exact (show fok6 (2 : Int32) (3 : Int32) v s (s) (s) (((v &&& (127 : Int32)) ||| (128 : Int32)).toInt8.toInt32.toInt8.toInt32) ((((XT.ushr v (7 : Int32)) &&& (127 : Int32)) ||| (128 : Int32)).toInt8.toInt32.toInt8.toInt32) ((XT.ushr (XT.ushr v (7 : Int32)) (7 : Int32)).toInt8.toInt32.toInt8.toInt32) (s) (s) (s) (s) = ((if s = s then (1 : Int32) else (0 : Int32)) &&& 1) from rfl).trans (by rw [if_pos rfl]; rfl)
  · exact (show fok7 (2 : Int32) (3 : Int32) v s (s) (s) (((v &&& (127 : Int32)) ||| (128 : Int32)).toInt8.toInt32.toInt8.toInt32) ((((XT.ushr v (7 : Int32)) &&& (127 : Int32)) ||| (128 : Int32)).toInt8.toInt32.toInt8.toInt32) ((XT.ushr (XT.ushr v (7 : Int32)) (7 : Int32)).toInt8.toInt32.toInt8.toInt32) (s) (s) (s) (s) = ((if s = s then (1 : Int32) else (0 : Int32)) &&& 1) from rfl).trans (by rw [if_pos rfl]; rfl)
  · exact (show fok8 (2 : Int32) (3 : Int32) v s (s) (s) (((v &&& (127 : Int32)) ||| (128 : Int32)).toInt8.toInt32.toInt8.toInt32) ((((XT.ushr v (7 : Int32)) &&& (127 : Int32)) ||| (128 : Int32)).toInt8.toInt32.toInt8.toInt32) ((XT.ushr (XT.ushr v (7 : Int32)) (7 : Int32)).toInt8.toInt32.toInt8.toInt32) (s) (s) (s) (s) = ((if s = s then (1 : Int32) else (0 : Int32)) &&& 1) from rfl).trans (by rw [if_pos rfl]; rfl)
theorem own_c3_3 (v s : Int32) (h0 : ¬ ((v &&& (-128 : Int32)) = 0)) (h1 : ¬ (((XT.ushr v (7 : Int32)) &&& (-128 : Int32)) = 0)) (h2 : ((XT.ushr (XT.ushr v (7 : Int32)) (7 : Int32)) &&& (-128 : Int32)) = 0) : f1 (3 : Int32) v s s s s s s s s s = (3 : Int32) + (3 : Int32) ∧ fok0 (3 : Int32) (3 : Int32) v s (f1_x0 (3 : Int32) v s s s s s s s s s) (f1_x1 (3 : Int32) v s s s s s s s s s) (f1_x2 (3 : Int32) v s s s s s s s s s) (f1_x3 (3 : Int32) v s s s s s s s s s) (f1_x4 (3 : Int32) v s s s s s s s s s) (f1_x5 (3 : Int32) v s s s s s s s s s) (f1_x6 (3 : Int32) v s s s s s s s s s) (f1_x7 (3 : Int32) v s s s s s s s s s) (f1_x8 (3 : Int32) v s s s s s s s s s) = 1 ∧ fok1 (3 : Int32) (3 : Int32) v s (f1_x0 (3 : Int32) v s s s s s s s s s) (f1_x1 (3 : Int32) v s s s s s s s s s) (f1_x2 (3 : Int32) v s s s s s s s s s) (f1_x3 (3 : Int32) v s s s s s s s s s) (f1_x4 (3 : Int32) v s s s s s s s s s) (f1_x5 (3 : Int32) v s s s s s s s s s) (f1_x6 (3 : Int32) v s s s s s s s s s) (f1_x7 (3 : Int32) v s s s s s s s s s) (f1_x8 (3 : Int32) v s s s s s s s s s) = 1 ∧ fok2 (3 : Int32) (3 : Int32) v s (f1_x0 (3 : Int32) v s s s s s s s s s) (f1_x1 (3 : Int32) v s s s s s s s s s) (f1_x2 (3 : Int32) v s s s s s s s s s) (f1_x3 (3 : Int32) v s s s s s s s s s) (f1_x4 (3 : Int32) v s s s s s s s s s) (f1_x5 (3 : Int32) v s s s s s s s s s) (f1_x6 (3 : Int32) v s s s s s s s s s) (f1_x7 (3 : Int32) v s s s s s s s s s) (f1_x8 (3 : Int32) v s s s s s s s s s) = 1 ∧ fok3 (3 : Int32) (3 : Int32) v s (f1_x0 (3 : Int32) v s s s s s s s s s) (f1_x1 (3 : Int32) v s s s s s s s s s) (f1_x2 (3 : Int32) v s s s s s s s s s) (f1_x3 (3 : Int32) v s s s s s s s s s) (f1_x4 (3 : Int32) v s s s s s s s s s) (f1_x5 (3 : Int32) v s s s s s s s s s) (f1_x6 (3 : Int32) v s s s s s s s s s) (f1_x7 (3 : Int32) v s s s s s s s s s) (f1_x8 (3 : Int32) v s s s s s s s s s) = 1 ∧ fok4 (3 : Int32) (3 : Int32) v s (f1_x0 (3 : Int32) v s s s s s s s s s) (f1_x1 (3 : Int32) v s s s s s s s s s) (f1_x2 (3 : Int32) v s s s s s s s s s) (f1_x3 (3 : Int32) v s s s s s s s s s) (f1_x4 (3 : Int32) v s s s s s s s s s) (f1_x5 (3 : Int32) v s s s s s s s s s) (f1_x6 (3 : Int32) v s s s s s s s s s) (f1_x7 (3 : Int32) v s s s s s s s s s) (f1_x8 (3 : Int32) v s s s s s s s s s) = 1 ∧ fok5 (3 : Int32) (3 : Int32) v s (f1_x0 (3 : Int32) v s s s s s s s s s) (f1_x1 (3 : Int32) v s s s s s s s s s) (f1_x2 (3 : Int32) v s s s s s s s s s) (f1_x3 (3 : Int32) v s s s s s s s s s) (f1_x4 (3 : Int32) v s s s s s s s s s) (f1_x5 (3 : Int32) v s s s s s s s s s) (f1_x6 (3 : Int32) v s s s s s s s s s) (f1_x7 (3 : Int32) v s s s s s s s s s) (f1_x8 (3 : Int32) v s s s s s s s s s) = 1 ∧ fok6 (3 : Int32) (3 : Int32) v s (f1_x0 (3 : Int32) v s s s s s s s s s) (f1_x1 (3 : Int32) v s s s s s s s s s) (f1_x2 (3 : Int32) v s s s s s s s s s) (f1_x3 (3 : Int32) v s s s s s s s s s) (f1_x4 (3 : Int32) v s s s s s s s s s) (f1_x5 (3 : Int32) v s s s s s s s s s) (f1_x6 (3 : Int32) v s s s s s s s s s) (f1_x7 (3 : Int32) v s s s s s s s s s) (f1_x8 (3 : Int32) v s s s s s s s s s) = 1 ∧ fok7 (3 : Int32) (3 : Int32) v s (f1_x0 (3 : Int32) v s s s s s s s s s) (f1_x1 (3 : Int32) v s s s s s s s s s) (f1_x2 (3 : Int32) v s s s s s s s s s) (f1_x3 (3 : Int32) v s s s s s s s s s) (f1_x4 (3 : Int32) v s s s s s s s s s) (f1_x5 (3 : Int32) v s s s s s s s s s) (f1_x6 (3 : Int32) v s s s s s s s s s) (f1_x7 (3 : Int32) v s s s s s s s s s) (f1_x8 (3 : Int32) v s s s s s s s s s) = 1 ∧ fok8 (3 : Int32) (3 : Int32) v s (f1_x0 (3 : Int32) v s s s s s s s s s) (f1_x1 (3 : Int32) v s s s s s s s s s) (f1_x2 (3 : Int32) v s s s s s s s s s) (f1_x3 (3 : Int32) v s s s s s s s s s) (f1_x4 (3 : Int32) v s s s s s s s s s) (f1_x5 (3 : Int32) v s s s s s s s s s) (f1_x6 (3 : Int32) v s s s s s s s s s) (f1_x7 (3 : Int32) v s s s s s s s s s) (f1_x8 (3 : Int32) v s s s s s s s s s) = 1 := by
  have x0 : f1_x0 (3 : Int32) v s s s s s s s s s = s := by simp only [f1_x0, if_neg h0, if_neg h1, if_pos h2]; rfl
  have x1 : f1_x1 (3 : Int32) v s s s s s s s s s = s := by simp only [f1_x1, if_neg h0, if_neg h1, if_pos h2]; rfl
  have x2 : f1_x2 (3 : Int32) v s s s s s s s s s = s := by simp only [f1_x2, if_neg h0, if_neg h1, if_pos h2]; rfl
  have x3 : f1_x3 (3 : Int32) v s s s s s s s s s = ((v &&& (127 : Int32)) ||| (128 : Int32)).toInt8.toInt32.toInt8.toInt32 := by simp only [f1_x3, if_neg h0, if_neg h1, if_pos h2]; rfl
  have x4 : f1_x4 (3 : Int32) v s s s s s s s s s = (((XT.ushr v (7 : Int32)) &&& (127 : Int32)) ||| (128 : Int32)).toInt8.toInt32.toInt8.toInt32 := by simp only [f1_x4, if_neg h0, if_neg h1, if_pos h2]; rfl
  have x5 : f1_x5 (3 : Int32) v s s s s s s s s s = (XT.ushr (XT.ushr v (7 : Int32)) (7 : Int32)).toInt8.toInt32.toInt8.toInt32 := by simp only [f1_x5, if_neg h0, if_neg h1, if_pos h2]; rfl
  have x6 : f1_x6 (3 : Int32) v s s s s s s s s s = s := by simp only [f1_x6, if_neg h0, if_neg h1, if_pos h2]; rfl
  have x7 : f1_x7 (3 : Int32) v s s s s s s s s s = s := by simp only [f1_x7, if_neg h0, if_neg h1, if_pos h2]; rfl
  have x8 : f1_x8 (3 : Int32) v s s s s s s s s s = s := by simp only [f1_x8, if_neg h0, if_neg h1, if_pos h2]; rfl
  rw [x0, x1, x2, x3, x4, x5, x6, x7, x8]
  refine ⟨by simp only [f1, if_neg h0, if_neg h1, if_pos h2]; try rfl, ?_, ?_, ?_, ?_, ?_, ?_, ?_, ?_, ?_⟩
  · exact (show fok0 (3 : Int32) (3 : Int32) v s (s) (s) (s) (((v &&& (127 : Int32)) ||| (128 : Int32)).toInt8.toInt32.toInt8.toInt32) ((((XT.ushr v (7 : Int32)) &&& (127 : Int32)) ||| (128 : Int32)).toInt8.toInt32.toInt8.toInt32) ((XT.ushr (XT.ushr v (7 : Int32)) (7 : Int32)).toInt8.toInt32.toInt8.toInt32) (s) (s) (s) = ((if s = s then (1 : Int32) else (0 : Int32)) &&& 1) from rfl).trans (by rw [if_pos rfl]; rfl)
  · exact (show fok1 (3 : Int32) (3 : Int32) v s (s) (s) (s) (((v &&& (127 : Int32)) ||| (128 : Int32)).toInt8.toInt32.toInt8.toInt32) ((((XT.ushr v (7 : Int32)) &&& (127 : Int32)) ||| (128 : Int32)).toInt8.toInt32.toInt8.toInt32) ((XT.ushr (XT.ushr v (7 : Int32)) (7 : Int32)).toInt8.toInt32.toInt8.toInt32) (s) (s) (s) = ((if s = s then (1 : Int32) else (0 : Int32)) &&& 1) from rfl).trans (by rw [if_pos rfl]; rfl)
  · exact (show fok2 (3 : Int32) (3 : Int32) v s (s) (s) (s) (((v &&& (127 : Int32)) ||| (128 : Int32)).toInt8.toInt32.toInt8.toInt32) ((((XT.ushr v (7 : Int32)) &&& (127 : Int32)) ||| (128 : Int32)).toInt8.toInt32.toInt8.toInt32) ((XT.ushr (XT.ushr v (7 : Int32)) (7 : Int32)).toInt8.toInt32.toInt8.toInt32) (s) (s) (s) = ((if s = s then (1 : Int32) else (0 : Int32)) &&& 1) from rfl).trans (by rw [if_pos rfl]; rfl)
  · exact (show fok3 (3 : Int32) (3 : Int32) v s (s) (s) (s) (((v &&& (127 : Int32)) ||| (128 : Int32)).toInt8.toInt32.toInt8.toInt32) ((((XT.ushr v (7 : Int32)) &&& (127 : Int32)) ||| (128 : Int32)).toInt8.toInt32.toInt8.toInt32) ((XT.ushr (XT.ushr v (7 : Int32)) (7 : Int32)).toInt8.toInt32.toInt8.toInt32) (s) (s) (s) = ((if ((v &&& (127 : Int32)) ||| (128 : Int32)).toInt8.toInt32.toInt8.toInt32 = (((XT.ushr v (0 : Int32)) &&& (127 : Int32)) ||| (128 : Int32)).toInt8.toInt32 then (1 : Int32) else (0 : Int32)) &&& 1) from rfl).trans (by rw [if_pos (own_e3_0 v)]; rfl)
  · exact (show fok4 (3 : Int32) (3 : Int32) v s (s) (s) (s) (((v &&& (127 : Int32)) ||| (128 : Int32)).toInt8.toInt32.toInt8.toInt32) ((((XT.ushr v (7 : Int32)) &&& (127 : Int32)) ||| (128 : Int32)).toInt8.toInt32.toInt8.toInt32) ((XT.ushr (XT.ushr v (7 : Int32)) (7 : Int32)).toInt8.toInt32.toInt8.toInt32) (s) (s) (s) = ((if (((XT.ushr v (7 : Int32)) &&& (127 : Int32)) ||| (128 : Int32)).toInt8.toInt32.toInt8.toInt32 = (((XT.ushr v (7 : Int32)) &&& (127 : Int32)) ||| (128 : Int32)).toInt8.toInt32 then (1 : Int32) else (0 : Int32)) &&& 1) from rfl).trans (by rw [if_pos (own_e3_1 v)]; rfl)
  · exact (show fok5 (3 : Int32) (3 : Int32) v s (s) (s) (s) (((v &&& (127 : Int32)) ||| (128 : Int32)).toInt8.toInt32.toInt8.toInt32) ((((XT.ushr v (7 : Int32)) &&& (127 : Int32)) ||| (128 : Int32)).toInt8.toInt32.toInt8.toInt32) ((XT.ushr (XT.ushr v (7 : Int32)) (7 : Int32)).toInt8.toInt32.toInt8.toInt32) (s) (s) (s) = ((if (XT.ushr (XT.ushr v (7 : Int32)) (7 : Int32)).toInt8.toInt32.toInt8.toInt32 = ((XT.ushr v (14 : Int32)) &&& (127 : Int32)).toInt8.toInt32 then (1 : Int32) else (0 : Int32)) &&& 1) from rfl).trans (by rw [if_pos (own_e3_2 v h2)]; rfl)
  · exact (show fok6 (3 : Int32) (3 : Int32) v s (s) (s) (s) (((v &&& (127 : Int32)) ||| (128 : Int32)).toInt8.toInt32.toInt8.toInt32) ((((XT.ushr v (7 : Int32)) &&& (127 : Int32)) ||| (128 : Int32)).toInt8.toInt32.toInt8.toInt32) ((XT.ushr (XT.ushr v (7 : Int32)) (7 : Int32)).toInt8.toInt32.toInt8.toInt32) (s) (s) (s) = ((if s = s then (1 : Int32) else (0 : Int32)) &&& 1) from rfl).trans (by rw [if_pos rfl]; rfl)
  · exact (show fok7 (3 : Int32) (3 : Int32) v s (s) (s) (s) (((v &&& (127 : Int32)) ||| (128 : Int32)).toInt8.toInt32.toInt8.toInt32) ((((XT.ushr v (7 : Int32)) &&& (127 : Int32)) ||| (128 : Int32)).toInt8.toInt32.toInt8.toInt32) ((XT.ushr (XT.ushr v (7 : Int32)) (7 : Int32)).toInt8.toInt32.toInt8.toInt32) (s) (s) (s) = ((if s = s then (1 : Int32) else (0 : Int32)) &&& 1) from rfl).trans (by rw [if_pos rfl]; rfl)
  · exact (show fok8 (3 : Int32) (3 : Int32) v s (s) (s) (s) (((v &&& (127 : Int32)) ||| (128 : Int32)).toInt8.toInt32.toInt8.toInt32) ((((XT.ushr v (7 : Int32)) &&& (127 : Int32)) ||| (128 : Int32)).toInt8.toInt32.toInt8.toInt32) ((XT.ushr (XT.ushr v (7 : Int32)) (7 : Int32)).toInt8.toInt32.toInt8.toInt32) (s) (s) (s) = ((if s = s then (1 : Int32) else (0 : Int32)) &&& 1) from rfl).trans (by rw [if_pos rfl]; rfl)
theorem own_e4_0 (v : Int32) : ((v &&& (127 : Int32)) ||| (128 : Int32)).toInt8.toInt32.toInt8.toInt32 = (((XT.ushr v (0 : Int32)) &&& (127 : Int32)) ||| (128 : Int32)).toInt8.toInt32 := by rw [own_ii, ← own_t0]
theorem own_e4_1 (v : Int32) : (((XT.ushr v (7 : Int32)) &&& (127 : Int32)) ||| (128 : Int32)).toInt8.toInt32.toInt8.toInt32 = (((XT.ushr v (7 : Int32)) &&& (127 : Int32)) ||| (128 : Int32)).toInt8.toInt32 := by rw [own_ii, ← own_t1]
theorem own_e4_2 (v : Int32) : (((XT.ushr (XT.ushr v (7 : Int32)) (7 : Int32)) &&& (127 : Int32)) ||| (128 : Int32)).toInt8.toInt32.toInt8.toInt32 = (((XT.ushr v (14 : Int32)) &&& (127 : Int32)) ||| (128 : Int32)).toInt8.toInt32 := by rw [own_ii, ← own_t2]
theorem own_e4_3 (v : Int32) (h3 : ((XT.ushr (XT.ushr (XT.ushr v (7 : Int32)) (7 : Int32)) (7 : Int32)) &&& (-128 : Int32)) = 0) : (XT.ushr (XT.ushr (XT.ushr v (7 : Int32)) (7 : Int32)) (7 : Int32)).toInt8.toInt32.toInt8.toInt32 = ((XT.ushr v (21 : Int32)) &&& (127 : Int32)).toInt8.toInt32 := by rw [own_ii, ← own_t3, own_low _ h3]
theorem own_c4_0 (v s : Int32) (h0 : ¬ ((v &&& (-128 : Int32)) = 0)) (h1 : ¬ (((XT.ushr v (7 : Int32)) &&& (-128 : Int32)) = 0)) (h2 : ¬ (((XT.ushr (XT.ushr v (7 : Int32)) (7 : Int32)) &&& (-128 : Int32)) = 0)) (h3 : ((XT.ushr (XT.ushr (XT.ushr v (7 : Int32)) (7 : Int32)) (7 : Int32)) &&& (-128 : Int32)) = 0) : f1 (0 : Int32) v s s s s s s s s s = (0 : Int32) + (4 : Int32) ∧ fok0 (0 : Int32) (4 : Int32) v s (f1_x0 (0 : Int32) v s s s s s s s s s) (f1_x1 (0 : Int32) v s s s s s s s s s) (f1_x2 (0 : Int32) v s s s s s s s s s) (f1_x3 (0 : Int32) v s s s s s s s s s) (f1_x4 (0 : Int32) v s s s s s s s s s) (f1_x5 (0 : Int32) v s s s s s s s s s) (f1_x6 (0 : Int32) v s s s s s s s s s) (f1_x7 (0 : Int32) v s s s s s s s s s) (f1_x8 (0 : Int32) v s s s s s s s s s) = 1 ∧ fok1 (0 : Int32) (4 : Int32) v s (f1_x0 (0 : Int32) v s s s s s s s s s) (f1_x1 (0 : Int32) v s s s s s s s s s) (f1_x2 (0 : Int32) v s s s s s s s s s) (f1_x3 (0 : Int32) v s s s s s s s s s) (f1_x4 (0 : Int32) v s s s s s s s s s) (f1_x5 (0 : Int32) v s s s s s s s s s) (f1_x6 (0 : Int32) v s s s s s s s s s) (f1_x7 (0 : Int32) v s s s s s s s s s) (f1_x8 (0 : Int32) v s s s s s s s s s) = 1 ∧ fok2 (0 : Int32) (4 : Int32) v s (f1_x0 (0 : Int32) v s s s s s s s s s) (f1_x1 (0 : Int32) v s s s s s s s s s) (f1_x2 (0 : Int32) v s s s s s s s s s) (f1_x3 (0 : Int32) v s s s s s s s s s) (f1_x4 (0 : Int32) v s s s s s s s s s) (f1_x5 (0 : Int32) v s s s s s s s s s) (f1_x6 (0 : Int32) v s s s s s s s s s) (f1_x7 (0 : Int32) v s s s s s s s s s) (f1_x8 (0 : Int32) v s s s s s s s s s) = 1 ∧ fok3 (0 : Int32) (4 : Int32) v s (f1_x0 (0 : Int32) v s s s s s s s s s) (f1_x1 (0 : Int32) v s s s s s s s s s) (f1_x2 (0 : Int32) v s s s s s s s s s) (f1_x3 (0 : Int32) v s s s s s s s s s) (f1_x4 (0 : Int32) v s s s s s s s s s) (f1_x5 (0 : Int32) v s s s s s s s s s) (f1_x6 (0 : Int32) v s s s s s s s s s) (f1_x7 (0 : Int32) v s s s s s s s s s) (f1_x8 (0 : Int32) v s s s s s s s s s) = 1 ∧ fok4 (0 : Int32) (4 : Int32) v s (f1_x0 (0 : Int32) v s s s s s s s s s) (f1_x1 (0 : Int32) v s s s s s s s s s) (f1_x2 (0 : Int32) v s s s s s s s s s) (f1_x3 (0 : Int32) v s s s s s s s s s) (f1_x4 (0 : Int32) v s s s s s s s s s) (f1_x5 (0 : Int32) v s s s s s s s s s) (f1_x6 (0 : Int32) v s s s s s s s s s) (f1_x7 (0 : Int32) v s s s s s s s s s) (f1_x8 (0 : Int32) v s s s s s s s s s) = 1 ∧ fok5 (0 : Int32) (4 : Int32) v s (f1_x0 (0 : Int32) v s s s s s s s s s) (f1_x1 (0 : Int32) v s s s s s s s s s) (f1_x2 (0 : Int32) v s s s s s s s s s) (f1_x3 (0 : Int32) v s s s s s s s s s) (f1_x4 (0 : Int32) v s s s s s s s s s) (f1_x5 (0 : Int32) v s s s s s s s s s) (f1_x6 (0 : Int32) v s s s s s s s s s) (f1_x7 (0 : Int32) v s s s s s s s s s) (f1_x8 (0 : Int32) v s s s s s s s s s) = 1 ∧ fok6 (0 : Int32) (4 : Int32) v s (f1_x0 (0 : Int32) v s s s s s s s s s) (f1_x1 (0 : Int32) v s s s s s s s s s) (f1_x2 (0 : Int32) v s s s s s s s s s) (f1_x3 (0 : Int32) v s s s s s s s s s) (f1_x4 (0 : Int32) v s s s s s s s s s) (f1_x5 (0 : Int32) v s s s s s s s s s) (f1_x6 (0 : Int32) v s s s s s s s s s) (f1_x7 (0 : Int32) v s s s s s s s s s) (f1_x8 (0 : Int32) v s s s s s s s s s) = 1 ∧ fok7 (0 : Int32) (4 : Int32) v s (f1_x0 (0 : Int32) v s s s s s s s s s) (f1_x1 (0 : Int32) v s s s s s s s s s) (f1_x2 (0 : Int32) v s s s s s s s s s) (f1_x3 (0 : Int32) v s s s s s s s s s) (f1_x4 (0 : Int32) v s s s s s s s s s) (f1_x5 (0 : Int32) v s s s s s s s s s) (f1_x6 (0 : Int32) v s s s s s s s s s) (f1_x7 (0 : Int32) v s s s s s s s s s) (f1_x8 (0 : Int32) v s s s s s s s s s) = 1 ∧ fok8 (0 : Int32) (4 : Int32) v s (f1_x0 (0 : Int32) v s s s s s s s s s) (f1_x1 (0 : Int32) v s s s s s s s s s) (f1_x2 (0 : Int32) v s s s s s s s s s) (f1_x3 (0 : Int32) v s s s s s s s s s) (f1_x4 (0 : Int32) v s s s s s s s s s) (f1_x5 (0 : Int32) v s s s s s s s s s) (f1_x6 (0 : Int32) v s s s s s s s s s) (f1_x7 (0 : Int32) v s s s s s s s s s) (f1_x8 (0 : Int32) v s s s s s s s s s) = 1 := by
  have x0 : f1_x0 (0 : Int32) v s s s s s s s s s = ((v &&& (127 : Int32)) ||| (128 : Int32)).toInt8.toInt32.toInt8.toInt32 := by simp only [f1_x0, if_neg h0, if_neg h1, if_neg h2, if_pos h3]; rfl
  have x1 : f1_x1 (0 : Int32) v s s s s s s s s s = (((XT.ushr v (7 : Int32)) &&& (127 : Int32)) ||| (128 : Int32)).toInt8.toInt32.toInt8.toInt32 := by simp only [f1_x1, if_neg h0, if_neg h1, if_neg h2, if_pos h3]; rfl
  have x2 : f1_x2 (0 : Int32) v s s s s s s s s s = (((XT.ushr (XT.ushr v (7 : Int32)) (7 : Int32)) &&& (127 : Int32)) ||| (128 : Int32)).toInt8.toInt32.toInt8.toInt32 := by simp only [f1_x2, if_neg h0, if_neg h1, if_neg h2, if_pos h3]; rfl
  have x3 : f1_x3 (0 : Int32) v s s s s s s s s s = (XT.ushr (XT.ushr (XT.ushr v (7 : Int32)) (7 : Int32)) (7 : Int32)).toInt8.toInt32.toInt8.toInt32 := by simp only [f1_x3, if_neg h0, if_neg h1, if_neg h2, if_pos h3]; rfl
  have x4 : f1_x4 (0 : Int32) v s s s s s s s s s = s := by simp only [f1_x4, if_neg h0, if_neg h1, if_neg h2, if_pos h3]; rfl
  have x5 : f1_x5 (0 : Int32) v s s s s s s s s s = s := by simp only [f1_x5, if_neg h0, if_neg h1, if_neg h2, if_pos h3]; rfl
  have x6 : f1_x6 (0 : Int32) v s s s s s s s s s = s := by simp only [f1_x6, if_neg h0, if_neg h1, if_neg h2, if_pos h3]; rfl
  have x7 : f1_x7 (0 : Int32) v s s s s s s s s s = s := by simp only [f1_x7, if_neg h0, if_neg h1, if_neg h2, if_pos h3]; rfl
  have x8 : f1_x8 (0 : Int32) v s s s s s s s s s = s := by simp only [f1_x8, if_neg h0, if_neg h1, if_neg h2, if_pos h3]; rfl
  rw [x0, x1, x2, x3, x4, x5, x6, x7, x8]
  refine ⟨by simp only [f1, if_neg h0, if_neg h1, if_neg h2, if_pos h3]; try rfl, ?_, ?_, ?_, ?_, ?_, ?_, ?_, ?_, ?_⟩
  · exact (show fok0 (0 : Int32) (4 : Int32) v s (((v &&& (127 : Int32)) ||| (128 : Int32)).toInt8.toInt32.toInt8.toInt32) ((((XT.ushr v (7 : Int32)) &&& (127 : Int32)) ||| (128 : Int32)).toInt8.toInt32.toInt8.toInt32) ((((XT.ushr (XT.ushr v (7 : Int32)) (7 : Int32)) &&& (127 : Int32)) ||| (128 : Int32)).toInt8.toInt32.toInt8.toInt32) ((XT.ushr (XT.ushr (XT.ushr v (7 : Int32)) (7 : Int32)) (7 : Int32)).toInt8.toInt32.toInt8.toInt32) (s) (s) (s) (s) (s) = ((if ((v &&& (127 : Int32)) ||| (128 : Int32)).toInt8.toInt32.toInt8.toInt32 = (((XT.ushr v (0 : Int32)) &&& (127 : Int32)) ||| (128 : Int32)).toInt8.toInt32 then (1 : Int32) else (0 : Int32)) &&& 1) from rfl).trans (by rw [if_pos (own_e4_0 v)]; rfl)
  · exact (show fok1 (0 : Int32) (4 : Int32) v s (((v &&& (127 : Int32)) ||| (128 : Int32)).toInt8.toInt32.toInt8.toInt32) ((((XT.ushr v (7 : Int32)) &&& (127 : Int32)) ||| (128 : Int32)).toInt8.toInt32.toInt8.toInt32) ((((XT.ushr (XT.ushr v (7 : Int32)) (7 : Int32)) &&& (127 : Int32)) ||| (128 : Int32)).toInt8.toInt32.toInt8.toInt32) ((XT.ushr (XT.ushr (XT.ushr v (7 : Int32)) (7 : Int32)) (7 : Int32)).toInt8.toInt32.toInt8.toInt32) (s) (s) (s) (s) (s) = ((if (((XT.ushr v (7 : Int32)) &&& (127 : Int32)) ||| (128 : Int32)).toInt8.toInt32.toInt8.toInt32 = (((XT.ushr v (7 : Int32)) &&& (127 : Int32)) ||| (128 : Int32)).toInt8.toInt32 then (1 : Int32) else (0 : Int32)) &&& 1) from rfl).trans (by rw [if_pos (own_e4_1 v)]; rfl)
  · exact (show fok2 (0 : Int32) (4 : Int32) v s (((v &&& (127 : Int32)) ||| (128 : Int32)).toInt8.toInt32.toInt8.toInt32) ((((XT.ushr v (7 : Int32)) &&& (127 : Int32)) ||| (128 : Int32)).toInt8.toInt32.toInt8.toInt32) ((((XT.ushr (XT.ushr v (7 : Int32)) (7 : Int32)) &&& (127 : Int32)) ||| (128 : Int32)).toInt8.toInt32.toInt8.toInt32) ((XT.ushr (XT.ushr (XT.ushr v (7 : Int32)) (7 : Int32)) (7 : Int32)).toInt8.toInt32.toInt8.toInt32) (s) (s) (s) (s) (s) = ((if (((XT.ushr (XT.ushr v (7 : Int32)) (7 : Int32)) &&& (127 : Int32)) ||| (128 : Int32)).toInt8.toInt32.toInt8.toInt32 = (((XT.ushr v (14 : Int32)) &&& (127 : Int32)) ||| (128 : Int32)).toInt8.toInt32 then (1 : Int32) else (0 : Int32)) &&& 1) from rfl).trans (by rw [if_pos (own_e4_2 v)]; rfl)
  · exact (show fok3 (0 : Int32) (4 : Int32) v s (((v &&& (127 : Int32)) ||| (128 : Int32)).toInt8.toInt32.toInt8.toInt32) ((((XT.ushr v (7 : Int32)) &&& (127 : Int32)) ||| (128 : Int32)).toInt8.toInt32.toInt8.toInt32) ((((XT.ushr (XT.ushr v (7 : Int32)) (7 : Int32)) &&& (127 : Int32)) ||| (128 : Int32)).toInt8.toInt32.toInt8.toInt32) ((XT.ushr (XT.ushr (XT.ushr v (7 : Int32)) (7 : Int32)) (7 : Int32)).toInt8.toInt32.toInt8.toInt32) (s) (s) (s) (s) (s) = ((if (XT.ushr (XT.ushr (XT.ushr v (7 : Int32)) (7 : Int32)) (7 : Int32)).toInt8.toInt32.toInt8.toInt32 = ((XT.ushr v (21 : Int32)) &&& (127 : Int32)).toInt8.toInt32 then (1 : Int32) else (0 : Int32)) &&& 1) from rfl).trans (by rw [if_pos (own_e4_3 v h3)]; rfl)
  · exact (show fok4 (0 : Int32) (4 : Int32) v s (((v &&& (127 : Int32)) ||| (128 : Int32)).toInt8.toInt32.toInt8.toInt32) ((((XT.ushr v (7 : Int32)) &&& (127 : Int32)) ||| (128 : Int32)).toInt8.toInt32.toInt8.toInt32) ((((XT.ushr (XT.ushr v (7 : Int32)) (7 : Int32)) &&& (127 : Int32)) ||| (128 : Int32)).toInt8.toInt32.toInt8.toInt32) ((XT.ushr (XT.ushr (XT.ushr v (7 : Int32)) (7 : Int32)) (7 : Int32)).toInt8.toInt32.toInt8.toInt32) (s) (s) (s) (s) (s) = ((if s = s then (1 : Int32) else (0 : Int32)) &&& 1) from rfl).trans (by rw [if_pos rfl]; rfl)
  · exact (show fok5 (0 : Int32) (4 : Int32) v s (((v &&& (127 : Int32)) ||| (128 : Int32)).toInt8.toInt32.toInt8.toInt32) ((((XT.ushr v (7 : Int32)) &&& (127 : Int32)) ||| (128 : Int32)).toInt8.toInt32.toInt8.toInt32) ((((XT.ushr (XT.ushr v (7 : Int32)) (7 : Int32)) &&& (127 : Int32)) ||| (128 : Int32)).toInt8.toInt32.toInt8.toInt32) ((XT.ushr (XT.ushr (XT.ushr v (7 : Int32)) (7 : Int32)) (7 : Int32)).toInt8.toInt32.toInt8.toInt32) (s) (s) (s) (s) (s) = ((if s = s then (1 : Int32) else (0 : Int32)) &&& 1) from rfl).trans (by rw [if_pos rfl]; rfl)
  · exact (show fok6 (0 : Int32) (4 : Int32) v s (((v &&& (127 : Int32)) ||| (128 : Int32)).toInt8.toInt32.toInt8.toInt32) ((((XT.ushr v (7 : Int32)) &&& (127 : Int32)) ||| (128 : Int32)).toInt8.toInt32.toInt8.toInt32) ((((XT.ushr (XT.ushr v (7 : Int32)) (7 : Int32)) &&& (127 : Int32)) ||| (128 : Int32)).toInt8.toInt32.toInt8.toInt32) ((XT.ushr (XT.ushr (XT.ushr v (7 : Int32)) (7 : Int32)) (7 : Int32)).toInt8.toInt32.toInt8.toInt32) (s) (s) (s) (s) (s) = ((if s = s then (1 : Int32) else (0 : Int32)) &&& 1) from rfl).trans (by rw [if_pos rfl]; rfl)
  · exact (show fok7 (0 : Int32) (4 : Int32) v s (((v &&& (127 : Int32)) ||| (128 : Int32)).toInt8.toInt32.toInt8.toInt32) ((((XT.ushr v (7 : Int32)) &&& (127 : Int32)) ||| (128 : Int32)).toInt8.toInt32.toInt8.toInt32) ((((XT.ushr (XT.ushr v (7 : Int32)) (7 : Int32)) &&& (127 : Int32)) ||| (128 : Int32)).toInt8.toInt32.toInt8.toInt32) ((XT.ushr (XT.ushr (XT.ushr v (7 : Int32)) (7 : Int32)) (7 : Int32)).toInt8.toInt32.toInt8.toInt32) (s) (s) (s) (s) (s) = ((if s = s then (1 : Int32) else (0 : Int32)) &&& 1) from rfl).trans (by rw [if_pos rfl]; rfl)
  · exact (show fok8 (0 : Int32) (4 : Int32) v s (((v &&& (127 : Int32)) ||| (128 : Int32)).toInt8.toInt32.toInt8.toInt32) ((((XT.ushr v (7 : Int32)) &&& (127 : Int32)) ||| (128 : Int32)).toInt8.toInt32.toInt8.toInt32) ((((XT.ushr (XT.ushr v (7 : Int32)) (7 : Int32)) &&& (127 : Int32)) ||| (128 : Int32)).toInt8.toInt32.toInt8.toInt32) ((XT.ushr (XT.ushr (XT.ushr v (7 : Int32)) (7 : Int32)) (7 : Int32)).toInt8.toInt32.toInt8.toInt32) (s) (s) (s) (s) (s) = ((if s = s then (1 : Int32) else (0 : Int32)) &&& 1) from rfl).trans (by rw [if_pos rfl]; rfl)
theorem own_c4_1 (v s : Int32) (h0 : ¬ ((v &&& (-128 : Int32)) = 0)) (h1 : ¬ (((XT.ushr v (7 : Int32)) &&& (-128 : Int32)) = 0)) (h2 : ¬ (((XT.ushr (XT.ushr v (7 : Int32)) (7 : Int32)) &&& (-128 : Int32)) = 0)) (h3 : ((XT.ushr (XT.ushr (XT.ushr v (7 : Int32)) (7 : Int32)) (7 : Int32)) &&& (-128 : Int32)) = 0) : f1 (1 : Int32) v s s s s s s s s s = (1 : Int32) + (4 : Int32) ∧ fok0 (1 : Int32) (4 : Int32) v s (f1_x0 (1 : Int32) v s s s s s s s s s) (f1_x1 (1 : Int32) v s s s s s s s s s) (f1_x2 (1 : Int32) v s s s s s s s s s) (f1_x3 (1 : Int32) v s s s s s s s s s) (f1_x4 (1 : Int32) v s s s s s s s s s) (f1_x5 (1 : Int32) v s s s s s s s s s) (f1_x6 (1 : Int32) v s s s s s s s s s) (f1_x7 (1 : Int32) v s s s s s s s s s) (f1_x8 (1 : Int32) v s s s s s s s s s) = 1 ∧ fok1 (1 : Int32) (4 : Int32) v s (f1_x0 (1 : Int32) v s s s s s s s s s) (f1_x1 (1 : Int32) v s s s s s s s s s) (f1_x2 (1 : Int32) v s s s s s s s s s) (f1_x3 (1 : Int32) v s s s s s s s s s) (f1_x4 (1 : Int32) v s s s s s s s s s) (f1_x5 (1 : Int32) v s s s s s s s s s) (f1_x6 (1 : Int32) v s s s s s s s s s) (f1_x7 (1 : Int32) v s s s s s s s s s) (f1_x8 (1 : Int32) v s s s s s s s s s) = 1 ∧ fok2 (1 : Int32) (4 : Int32) v s (f1_x0 (1 : Int32) v s s s s s s s s s) (f1_x1 (1 : Int32) v s s s s s s s s s) (f1_x2 (1 : Int32) v s s s s s s s s s) (f1_x3 (1 : Int32) v s s s s s s s s s) (f1_x4 (1 : Int32) v s s s s s s s s s) (f1_x5 (1 : Int32) v s s s s s s s s s) (f1_x6 (1 : Int32) v s s s s s s s s s) (f1_x7 (1 : Int32) v s s s s s s s s s) (f1_x8 (1 : Int32) v s s s s s s s s s) = 1 ∧ fok3 (1 : Int32) (4 : Int32) v s (f1_x0 (1 : Int32) v s s s s s s s s s) (f1_x1 (1 : Int32) v s s s s s s s s s) (f1_x2 (1 : Int32) v s s s s s s s s s) (f1_x3 (1 : Int32) v s s s s s s s s s) (f1_x4 (1 : Int32) v s s s s s s s s s) (f1_x5 (1 : Int32) v s s s s s s s s s) (f1_x6 (1 : Int32) v s s s s s s s s s) (f1_x7 (1 : Int32) v s s s s s s s s s) (f1_x8 (1 : Int32) v s s s s s s s s s) = 1 ∧ fok4 (1 : Int32) (4 : Int32) v s (f1_x0 (1 : Int32) v s s s s s s s s s) (f1_x1 (1 : Int32) v s s s s s s s s s) (f1_x2 (1 : Int32) v s s s s s s s s s) (f1_x3 (1 : Int32) v s s s s s s s s s) (f1_x4 (1 : Int32) v s s s s s s s s s) (f1_x5 (1 : Int32) v s s s s s s s s s) (f1_x6 (1 : Int32) v s s s s s s s s s) (f1_x7 (1 : Int32) v s s s s s s s s s) (f1_x8 (1 : Int32) v s s s s s s s s s) = 1 ∧ fok5 (1 : Int32) (4 : Int32) v s (f1_x0 (1 : Int32) v s s s s s s s s s) (f1_x1 (1 : Int32) v s s s s s s s s s) (f1_x2 (1 : Int32) v s s s s s s s s s) (f1_x3 (1 : Int32) v s s s s s s s s s) (f1_x4 (1 : Int32) v s s s s s s s s s) (f1_x5 (1 : Int32) v s s s s s s s s s) (f1_x6 (1 : Int32) v s s s s s s s s s) (f1_x7 (1 : Int32) v s s s s s s s s s) (f1_x8 (1 : Int32) v s s s s s s s s s) = 1 ∧ fok6 (1 : Int32) (4 : Int32) v s (f1_x0 (1 : Int32) v s s s s s s s s s) (f1_x1 (1 : Int32) v s s s s s s s s s) (f1_x2 (1 : Int32) v s s s s s s s s s) (f1_x3 (1 : Int32) v s s s s s s s s s) (f1_x4 (1 : Int32) v s s s s s s s s s) (f1_x5 (1 : Int32) v s s s s s s s s s) (f1_x6 (1 : Int32) v s s s s s s s s s) (f1_x7 (1 : Int32) v s s s s s s s s s) (f1_x8 (1 : Int32) v s s s s s s s s s) = 1 ∧ fok7 (1 : Int32) (4 : Int32) v s (f1_x0 (1 : Int32) v s s s s s s s s s) (f1_x1 (1 : Int32) v s s s s s s s s s) (f1_x2 (1 : Int32) v s s s s s s s s s) (f1_x3 (1 : Int32) v s s s s s s s s s) (f1_x4 (1 : Int32) v s s s s s s s s s) (f1_x5 (1 : Int32) v s s s s s s s s s) (f1_x6 (1 : Int32) v s s s s s s s s s) (f1_x7 (1 : Int32) v s s s s s s s s s) (f1_x8 (1 : Int32) v s s s s s s s s s) = 1 ∧ fok8 (1 : Int32) (4 : Int32) v s (f1_x0 (1 : Int32) v s s s s s s s s s) (f1_x1 (1 : Int32) v s s s s s s s s s) (f1_x2 (1 : Int32) v s s s s s s s s s) (f1_x3 (1 : Int32) v s s s s s s s s s) (f1_x4 (1 : Int32) v s s s s s s s s s) (f1_x5 (1 : Int32) v s s s s s s s s s) (f1_x6 (1 : Int32) v s s s s s s s s s) (f1_x7 (1 : Int32) v s s s s s s s s s) (f1_x8 (1 : Int32) v s s s s s s s s s) = 1 := by
  have x0 : f1_x0 (1 : Int32) v s s s s s s s s s = s := by simp only [f1_x0, if_neg h0, if_neg h1, if_neg h2, if_pos h3]; rfl
  have x1 : f1_x1 (1 : Int32) v s s s s s s s s s = ((v &&& (127 : Int32)) ||| (128 : Int32)).toInt8.toInt32.toInt8.toInt32 := by simp only [f1_x1, if_neg h0, if_neg h1, if_neg h2, if_pos h3]; rfl
  have x2 : f1_x2 (1 : Int32) v s s s s s s s s s = (((XT.ushr v (7 : Int32)) &&& (127 : Int32)) ||| (128 : Int32)).toInt8.toInt32.toInt8.toInt32 := by simp only [f1_x2, if_neg h0, if_neg h1, if_neg h2, if_pos h3]; rfl
  have x3 : f1_x3 (1 : Int32) v s s s s s s s s s = (((XT.ushr (XT.ushr v (7 : Int32)) (7 : Int32)) &&& (127 : Int32)) ||| (128 : Int32)).toInt8.toInt32.toInt8.toInt32 := by simp only [f1_x3, if_neg h0, if_neg h1, if_neg h2, if_pos h3]; rfl
  have x4 : f1_x4 (1 : Int32) v s s s s s s s s s = (XT.ushr (XT.ushr (XT.ushr v (7 : Int32)) (7 : Int32)) (7 : Int32)).toInt8.toInt32.toInt8.toInt32 := by simp only [f1_x4, if_neg h0, if_neg h1, if_neg h2, if_pos h3]; rfl
  have x5 : f1_x5 (1 : Int32) v s s s s s s s s s = s := by simp only [f1_x5, if_neg h0, if_neg h1, if_neg h2, if_pos h3]; rfl
  have x6 : f1_x6 (1 : Int32) v s s s s s s s s s = s := by simp only [f1_x6, if_neg h0, if_neg h1, if_neg h2, if_pos h3]; rfl
  have x7 : f1_x7 (1 : Int32) v s s s s s s s s s = s := by simp only [f1_x7, if_neg h0, if_neg h1, if_neg h2, if_pos h3]; rfl
  have x8 : f1_x8 (1 : Int32) v s s s s s s s s s = s := by simp only [f1_x8, if_neg h0, if_neg h1, if_neg h2, if_pos h3]; rfl
  rw [x0, x1, x2, x3, x4, x5, x6, x7, x8]
  refine ⟨by simp only [f1, if_neg h0, if_neg h1, if_neg h2, if_pos h3]; try rfl, ?_, ?_, ?_, ?_, ?_, ?_, ?_, ?_, ?_⟩
  · exact (show fok0 (1 : Int32) (4 : Int32) v s (s) (((v &&& (127 : Int32)) ||| (128 : Int32)).toInt8.toInt32.toInt8.toInt32) ((((XT.ushr v (7 : Int32)) &&& (127 : Int32)) ||| (128 : Int32)).toInt8.toInt32.toInt8.toInt32) ((((XT.ushr (XT.ushr v (7 : Int32)) (7 : Int32)) &&& (127 : Int32)) ||| (128 : Int32)).toInt8.toInt32.toInt8.toInt32) ((XT.ushr (XT.ushr (XT.ushr v (7 : Int32)) (7 : Int32)) (7 : Int32)).toInt8.toInt32.toInt8.toInt32) (s) (s) (s) (s) = ((if s = s then (1 : Int32) else (0 : Int32)) &&& 1) from rfl).trans (by rw [if_pos rfl]; rfl)
  · exact (show fok1 (1 : Int32) (4 : Int32) v s (s) (((v &&& (127 : Int32)) ||| (128 : Int32)).toInt8.toInt32.toInt8.toInt32) ((((XT.ushr v (7 : Int32)) &&& (127 : Int32)) ||| (128 : Int32)).toInt8.toInt32.toInt8.toInt32) ((((XT.ushr (XT.ushr v (7 : Int32)) (7 : Int32)) &&& (127 : Int32)) ||| (128 : Int32)).toInt8.toInt32.toInt8.toInt32) ((XT.ushr (XT.ushr (XT.ushr v (7 : Int32)) (7 : Int32)) (7 : Int32)).toInt8.toInt32.toInt8.toInt32) (s) (s) (s) (s) = ((if ((v &&& (127 : Int32)) ||| (128 : Int32)).toInt8.toInt32.toInt8.toInt32 = (((XT.ushr v (0 : Int32)) &&& (127 : Int32)) ||| (128 : Int32)).toInt8.toInt32 then (1 : Int32) else (0 : Int32)) &&& 1) from rfl).trans (by rw [if_pos (own_e4_0 v)]; rfl)
  · exact (show fok2 (1 : Int32) (4 : Int32) v s (s) (((v &&& (127 : Int32)) ||| (128 : Int32)).toInt8.toInt32.toInt8.toInt32) ((((XT.ushr v (7 : Int32)) &&& (127 : Int32)) ||| (128 : Int32)).toInt8.toInt32.toInt8.toInt32) ((((XT.ushr (XT.ushr v (7 : Int32)) (7 : Int32)) &&& (127 : Int32)) ||| (128 : Int32)).toInt8.toInt32.toInt8.toInt32) ((XT.ushr (XT.ushr (XT.ushr v (7 : Int32)) (7 : Int32)) (7 : Int32)).toInt8.toInt32.toInt8.toInt32) (s) (s) (s) (s) = ((if (((XT.ushr v (7 : Int32)) &&& (127 : Int32)) ||| (128 : Int32)).toInt8.toInt32.toInt8.toInt32 = (((XT.ushr v (7 : Int32)) &&& (127 : Int32)) ||| (128 : Int32)).toInt8.toInt32 then (1 : Int32) else (0 : Int32)) &&& 1) from rfl).trans (by rw [if_pos (own_e4_1 v)]; rfl)
  · exact (show fok3 (1 : Int32) (4 : Int32) v s (s) (((v &&& (127 : Int32)) ||| (128 : Int32)).toInt8.toInt32.toInt8.toInt32) ((((XT.ushr v (7 : Int32)) &&& (127 : Int32)) ||| (128 : Int32)).toInt8.toInt32.toInt8.toInt32) ((((XT.ushr (XT.ushr v (7 : Int32)) (7 : Int32)) &&& (127 : Int32)) ||| (128 : Int32)).toInt8.toInt32.toInt8.toInt32) ((XT.ushr (XT.ushr (XT.ushr v (7 : Int32)) (7 : Int32)) (7 : Int32)).toInt8.toInt32.toInt8.toInt32) (s) (s) (s) (s) = ((if (((XT.ushr (XT.ushr v (7 : Int32)) (7 : Int32)) &&& (127 : Int32)) ||| (128 : Int32)).toInt8.toInt32.toInt8.toInt32 = (((XT.ushr v (14 : Int32)) &&& (127 : Int32)) ||| (128 : Int32)).toInt8.toInt32 then (1 : Int32) else (0 : Int32)) &&& 1) from rfl).trans (by rw [if_pos (own_e4_2 v)]; rfl)
  · exact (show fok4 (1 : Int32) (4 : Int32) v s (s) (((v &&& (127 : Int32)) ||| (128 : Int32)).toInt8.toInt32.toInt8.toInt32) ((((XT.ushr v (7 : Int32)) &&& (127 : Int32)) ||| (128 : Int32)).toInt8.toInt32.toInt8.toInt32) ((((XT.ushr (XT.ushr v (7 : Int32)) (7 : Int32)) &&& (127 : Int32)) ||| (128 : Int32)).toInt8.toInt32.toInt8.toInt32) ((XT.ushr (XT.ushr (XT.ushr v (7 : Int32)) (7 : Int32)) (7 : Int32)).toInt8.toInt32.toInt8.toInt32) (s) (s) (s) (s) = ((if (XT.ushr (XT.ushr (XT.ushr v (7 : Int32)) (7 : Int32)) (7 : Int32)).toInt8.toInt32.toInt8.toInt32 = ((XT.ushr v (21 : Int32)) &&& (127 : Int32)).toInt8.toInt32 then (1 : Int32) else (0 : Int32)) &&& 1) from rfl).trans (by rw [if_pos (own_e4_3 v h3)]; rfl)
  · exact (show fok5 (1 : Int32) (4 : Int32) v s (s) (((v &&& (127 : Int32)) ||| (128 : Int32)).toInt8.toInt32.toInt8.toInt32) ((((XT.ushr v (7 : Int32)) &&& (127 : Int32)) ||| (128 : Int32)).toInt8.toInt32.toInt8.toInt32) ((((XT.ushr (XT.ushr v (7 : Int32)) (7 : Int32)) &&& (127 : Int32)) ||| (128 : Int32)).toInt8.toInt32.toInt8.toInt32) ((XT.ushr (XT.ushr (XT.ushr v (7 : Int32)) (7 : Int32)) (7 : Int32)).toInt8.toInt32.toInt8.toInt32) (s) (s) (s) (s) = ((if s = s then (1 : Int32) else (0 : Int32)) &&& 1) from rfl).trans (by rw [if_pos rfl]; rfl)
  · exact (show fok6 (1 : Int32) (4 : Int32) v s (s) (((v &&& (127 : Int32)) ||| (128 : Int32)).toInt8.toInt32.toInt8.toInt32) ((((XT.ushr v (7 : Int32)) &&& (127 : Int32)) ||| (128 : Int32)).toInt8.toInt32.toInt8.toInt32) ((((XT.ushr (XT.ushr v (7 : Int32)) (7 : Int32)) &&& (127 : Int32)) ||| (128 : Int32)).toInt8.toInt32.toInt8.toInt32) ((XT.ushr (XT.ushr (XT.ushr v (7 : Int32)) (7 : Int32)) (7 : Int32)).toInt8.toInt32.toInt8.toInt32) (s) (s) (s) (s) = ((if s = s then (1 : Int32) else (0 : Int32)) &&& 1) from rfl).trans (by rw [if_pos rfl]; rfl)
  · exact (show fok7 (1 : Int32) (4 : Int32) v s (s) (((v &&& (127 : Int32)) ||| (128 : Int32)).toInt8.toInt32.toInt8.toInt32) ((((XT.ushr v (7 : Int32)) &&& (127 : Int32)) ||| (128 : Int32)).toInt8.toInt32.toInt8.toInt32) ((((XT.ushr (XT.ushr v (7 : Int32)) (7 : Int32)) &&& (127 : Int32)) ||| (128 : Int32)).toInt8.toInt32.toInt8.toInt32) ((XT.ushr (XT.ushr (XT.ushr v (7 : Int32)) (7 : Int32)) (7 : Int32)).toInt8.toInt32.toInt8.toInt32) (s) (s) (s) (s) = ((if s = s then (1 : Int32) else (0 : Int32)) &&& 1) from rfl).trans (by rw [if_pos rfl]; rfl)
  · exact (show fok8 (1 : Int32) (4 : Int32) v s (s) (((v &&& (127 : Int32)) ||| (128 : Int32)).toInt8.toInt32.toInt8.toInt32) ((((XT.ushr v (7 : Int32)) &&& (127 : Int32)) ||| (128 : Int32)).toInt8.toInt32.toInt8.toInt32) ((((XT.ushr (XT.ushr v (7 : Int32)) (7 : Int32)) &&& (127 : Int32)) ||| (128 : Int32)).toInt8.toInt32.toInt8.toInt32) ((XT.ushr (XT.ushr (XT.ushr v (7 : Int32)) (7 : Int32)) (7 : Int32)).toInt8.toInt32.toInt8.toInt32) (s) (s) (s) (s) = ((if s = s then (1 : Int32) else (0 : Int32)) &&& 1) from rfl).trans (by rw [if_pos rfl]; rfl)
theorem own_c4_2 (v s : Int32) (h0 : ¬ ((v &&& (-128 : Int32)) = 0)) (h1 : ¬ (((XT.ushr v (7 : Int32)) &&& (-128 : Int32)) = 0)) (h2 : ¬ (((XT.ushr (XT.ushr v (7 : Int32)) (7 : Int32)) &&& (-128 : Int32)) = 0)) (h3 : ((XT.ushr (XT.ushr (XT.ushr v (7 : Int32)) (7 : Int32)) (7 : Int32)) &&& (-128 : Int32)) = 0) : f1 (2 : Int32) v s s s s s s s s s = (2 : Int32) + (4 : Int32) ∧ fok0 (2 : Int32) (4 : Int32) v s (f1_x0 (2 : Int32) v s s s s s s s s s) (f1_x1 (2 : Int32) v s s s s s s s s s) (f1_x2 (2 : Int32) v s s s s s s s s s) (f1_x3 (2 : Int32) v s s s s s s s s s) (f1_x4 (2 : Int32) v s s s s s s s s s) (f1_x5 (2 : Int32) v s s s s s s s s s) (f1_x6 (2 : Int32) v s s s s s s s s s) (f1_x7 (2 : Int32) v s s s s s s s s s) (f1_x8 (2 : Int32) v s s s s s s s s s) = 1 ∧ fok1 (2 : Int32) (4 : Int32) v s (f1_x0 (2 : Int32) v s s s s s s s s s) (f1_x1 (2 : Int32) v s s s s s s s s s) (f1_x2 (2 : Int32) v s s s s s s s s s) (f1_x3 (2 : Int32) v s s s s s s s s s) (f1_x4 (2 : Int32) v s s s s s s s s s) (f1_x5 (2 : Int32) v s s s s s s s s s) (f1_x6 (2 : Int32) v s s s s s s s s s) (f1_x7 (2 : Int32) v s s s s s s s s s) (f1_x8 (2 : Int32) v s s s s s s s s s) = 1 ∧ fok2 (2 : Int32) (4 : Int32) v s (f1_x0 (2 : Int32) v s s s s s s s s s) (f1_x1 (2 : Int32) v s s s s s s s s s) (f1_x2 (2 : Int32) v s s s s s s s s s) (f1_x3 (2 : Int32) v s s s s s s s s s) (f1_x4 (2 : Int32) v s s s s s s s s s) (f1_x5 (2 : Int32) v s s s s s s s s s) (f1_x6 (2 : Int32) v s s s s s s s s s) (f1_x7 (2 : Int32) v s s s s s s s s s) (f1_x8 (2 : Int32) v s s s s s s s s s) = 1 ∧ fok3 (2 : Int32) (4 : Int32) v s (f1_x0 (2 : Int32) v s s s s s s s s s) (f1_x1 (2 : Int32) v s s s s s s s s s) (f1_x2 (2 : Int32) v s s s s s s s s s) (f1_x3 (2 : Int32) v s s s s s s s s s) (f1_x4 (2 : Int32) v s s s s s s s s s) (f1_x5 (2 : Int32) v s s s s s s s s s) (f1_x6 (2 : Int32) v s s s s s s s s s) (f1_x7 (2 : Int32) v s s s s s s s s s) (f1_x8 (2 : Int32) v s s s s s s s s s) = 1 ∧ fok4 (2 : Int32) (4 : Int32) v s (f1_x0 (2 : Int32) v s s s s s s s s s) (f1_x1 (2 : Int32) v s s s s s s s s s) (f1_x2 (2 : Int32) v s s s s s s s s s) (f1_x3 (2 : Int32) v s s s s s s s s s) (f1_x4 (2 : Int32) v s s s s s s s s s) (f1_x5 (2 : Int32) v s s s s s s s s s) (f1_x6 (2 : Int32) v s s s s s s s s s) (f1_x7 (2 : Int32) v s s s s s s s s s) (f1_x8 (2 : Int32) v s s s s s s s s s) = 1 ∧ fok5 (2 : Int32) (4 : Int32) v s (f1_x0 (2 : Int32) v s s s s s s s s s) (f1_x1 (2 : Int32) v s s s s s s s s s) (f1_x2 (2 : Int32) v s s s s s s s s s) (f1_x3 (2 : Int32) v s s s s s s s s s) (f1_x4 (2 : Int32) v s s s s s s s s s) (f1_x5 (2 : Int32) v s s s s s s s s s) (f1_x6 (2 : Int32) v s s s s s s s s s) (f1_x7 (2 : Int32) v s s s s s s s s s) (f1_x8 (2 : Int32) v s s s s s s s s s) = 1 ∧ fok6 (2 : Int32) (4 : Int32) v s (f1_x0 (2 : Int32) v s s s s s s s s s) (f1_x1 (2 : Int32) v s s s s s s s s s) (f1_x2 (2 : Int32) v s s s s s s s s s) (f1_x3 (2 : Int32) v s s s s s s s s s) (f1_x4 (2 : Int32) v s s s s s s s s s) (f1_x5 (2 : Int32) v s s s s s s s s s) (f1_x6 (2 : Int32) v s s s s s s s s s) (f1_x7 (2 : Int32) v s s s s s s s s s) (f1_x8 (2 : Int32) v s s s s s s s s s) = 1 ∧ fok7 (2 : Int32) (4 : Int32) v s (f1_x0 (2 : Int32) v s s s s s s s s s) (f1_x1 (2 : Int32) v s s s s s s s s s) (f1_x2 (2 : Int32) v s s s s s s s s s) (f1_x3 (2 : Int32) v s s s s s s s s s) (f1_x4 (2 : Int32) v s s s s s s s s s) (f1_x5 (2 : Int32) v s s s s s s s s s) (f1_x6 (2 : Int32) v s s s s s s s s s) (f1_x7 (2 : Int32) v s s s s s s s s s) (f1_x8 (2 : Int32) v s s s s s s s s s) = 1 ∧ fok8 (2 : Int32) (4 : Int32) v s (f1_x0 (2 : Int32) v s s s s s s s s s) (f1_x1 (2 : Int32) v s s s s s s s s s) (f1_x2 (2 : Int32) v s s s s s s s s s) (f1_x3 (2 : Int32) v s s s s s s s s s) (f1_x4 (2 : Int32) v s s s s s s s s s) (f1_x5 (2 : Int32) v s s s s s s s s s) (f1_x6 (2 : Int32) v s s s s s s s s s) (f1_x7 (2 : Int32) v s s s s s s s s s) (f1_x8 (2 : Int32) v s s s s s s s s s) = 1 := by
  have x0 : f1_x0 (2 : Int32) v s s s s s s s s s = s := by simp only [f1_x0, if_neg h0, if_neg h1, if_neg h2, if_pos h3]; rfl
  have x1 : f1_x1 (2 : Int32) v s s s s s s s s s = s := by simp only [f1_x1, if_neg h0, if_neg h1, if_neg h2, if_pos h3]; rfl
  have x2 : f1_x2 (2 : Int32) v s s s s s s s s s = ((v &&& (127 : Int32)) ||| (128 : Int32)).toInt8.toInt32.toInt8.toInt32 := by simp only [f1_x2, if_neg h0, if_neg h1, if_neg h2, if_pos h3]; rfl
  have x3 : f1_x3 (2 : Int32) v s s s s s s s s s = (((XT.ushr v (7 : Int32)) &&& (127 : Int32)) ||| (128 : Int32)).toInt8.toInt32.toInt8.toInt32 := by simp only [f1_x3, if_neg h0, if_neg h1, if_neg h2, if_pos h3]; rfl
  have x4 : f1_x4 (2 : Int32) v s s s s s s s s s = (((XT.ushr (XT.ushr v (7 : Int32)) (7 : Int32)) &&& (127 : Int32)) ||| (128 : Int32)).toInt8.toInt32.toInt8.toInt32 := by simp only [f1_x4, if_neg h0, if_neg h1, if_neg h2, if_pos h3]; rfl
  have x5 : f1_x5 (2 : Int32) v s s s s s s s s s = (XT.ushr (XT.ushr (XT.ushr v (7 : Int32)) (7 : Int32)) (7 : Int32)).toInt8.toInt32.toInt8.toInt32 := by simp only [f1_x5, if_neg h0, if_neg h1, if_neg h2, if_pos h3]; rfl
  have x6 : f1_x6 (2 : Int32) v s s s s s s s s s = s := by simp only [f1_x6, if_neg h0, if_neg h1, if_neg h2, if_pos h3]; rfl
  have x7 : f1_x7 (2 : Int32) v s s s s s s s s s = s := by simp only [f1_x7, if_neg h0, if_neg h1, if_neg h2, if_pos h3]; rfl
  have x8 : f1_x8 (2 : Int32) v s s s s s s s s s = s := by simp only [f1_x8, if_neg h0, if_neg h1, if_neg h2, if_pos h3]; rfl
  rw [x0, x1, x2, x3, x4, x5, x6, x7, x8]
  refine ⟨by simp only [f1, if_neg h0, if_neg h1, if_neg h2, if_pos h3]; try rfl, ?_, ?_, ?_, ?_, ?_, ?_, ?_, ?_, ?_⟩
  · exact (show fok0 (2 : Int32) (4 : Int32) v s (s) (s) (((v &&& (127 : Int32)) ||| (128 : Int32)).toInt8.toInt32.toInt8.toInt32) ((((XT.ushr v (7 : Int32)) &&& (127 : Int32)) ||| (128 : Int32)).toInt8.toInt32.toInt8.toInt32) ((((XT.ushr (XT.ushr v (7 : Int32)) (7 : Int32)) &&& (127 : Int32)) ||| (128 : Int32)).toInt8.toInt32.toInt8.toInt32) ((XT.ushr (XT.ushr (XT.ushr v (7 : Int32)) (7 : Int32)) (7 : Int32)).toInt8.toInt32.toInt8.toInt32) (s) (s) (s) = ((if s = s then (1 : Int32) else (0 : Int32)) &&& 1) from rfl).trans (by rw [if_pos rfl]; rfl)
  · exact (show fok1 (2 : Int32) (4 : Int32) v s (s) (s) (((v &&& (127 : Int32)) ||| (128 : Int32)).toInt8.toInt32.toInt8.toInt32) ((((XT.ushr v (7 : Int32)) &&& (127 : Int32)) ||| (128 : Int32)).toInt8.toInt32.toInt8.toInt32) ((((XT.ushr (XT.ushr v (7 : Int32)) (7 : Int32)) &&& (127 : Int32)) ||| (128 : Int32)).toInt8.toInt32.toInt8.toInt32) ((XT.ushr (XT.ushr (XT.ushr v (7 : Int32)) (7 : Int32)) (7 : Int32)).toInt8.toInt32.toInt8.toInt32) (s) (s) (s) = ((if s = s then (1 : Int32) else (0 : Int32)) &&& 1) from rfl).trans (by rw [if_pos rfl]; rfl)
  · exact (show fok2 (2 : Int32) (4 : Int32) v s (s) (s) (((v &&& (127 : Int32)) ||| (128 : Int32)).toInt8.toInt32.toInt8.toInt32) ((((XT.ushr v (7 : Int32)) &&& (127 : Int32)) ||| (128 : Int32)).toInt8.toInt32.toInt8.toInt32) ((((XT.ushr (XT.ushr v (7 : Int32)) (7 : Int32)) &&& (127 : Int32)) ||| (128 : Int32)).toInt8.toInt32.toInt8.toInt32) ((XT.ushr (XT.ushr (XT.ushr v (7 : Int32)) (7 : Int32)) (7 : Int32)).toInt8.toInt32.toInt8.toInt32) (s) (s) (s) = ((if ((v &&& (127 : Int32)) ||| (128 : Int32)).toInt8.toInt32.toInt8.toInt32 = (((XT.ushr v (0 : Int32)) &&& (127 : Int32)) ||| (128 : Int32)).toInt8.toInt32 then (1 : Int32) else (0 : Int32)) &&& 1) from rfl).trans (by rw [if_pos (own_e4_0 v)]; rfl)
  · exact (show fok3 (2 : Int32) (4 : Int32) v s (s) (s) (((v &&& (127 : Int32)) ||| (128 : Int32)).toInt8.toInt32.toInt8.toInt32) ((((XT.ushr v (7 : Int32)) &&& (127 : Int32)) ||| (128 : Int32)).toInt8.toInt32.toInt8.toInt32) ((((XT.ushr (XT.ushr v (7 : Int32)) (7 : Int32)) &&& (127 : Int32)) ||| (128 : Int32)).toInt8.toInt32.toInt8.toInt32) ((XT.ushr (XT.ushr (XT.ushr v (7 : Int32)) (7 : Int32)) (7 : Int32)).toInt8.toInt32.toInt8.toInt32) (s) (s) (s) = ((if (((XT.ushr v (7 : Int32)) &&& (127 : Int32)) ||| (128 : Int32)).toInt8.toInt32.toInt8.toInt32 = (((XT.ushr v (7 : Int32)) &&& (127 : Int32)) ||| (128 : Int32)).toInt8.toInt32 then (1 : Int32) else (0 : Int32)) &&& 1) from rfl).trans (by rw [if_pos (own_e4_1 v)]; rfl)
  · exact (show fok4 (2 : Int32) (4 : Int32) v s (s) (s) (((v &&& (127 : Int32)) ||| (128 : Int32)).toInt8.toInt32.toInt8.toInt32) ((((XT.ushr v (7 : Int32)) &&& (127 : Int32)) ||| (128 : Int32)).toInt8.toInt32.toInt8.toInt32) ((((XT.ushr (XT.ushr v (7 : Int32)) (7 : Int32)) &&& (127 : Int32)) ||| (128 : Int32)).toInt8.toInt32.toInt8.toInt32) ((XT.ushr (XT.ushr (XT.ushr v (7 : Int32)) (7 : Int32)) (7 : Int32)).toInt8.toInt32.toInt8.toInt32) (s) (s) (s) = ((if (((XT.ushr (XT.ushr v (7 : Int32)) (7 : Int32)) &&& (127 : Int32)) ||| (128 : Int32)).toInt8.toInt32.toInt8.toInt32 = (((XT.ushr v (14 : Int32)) &&& (127 : Int32)) ||| (128 : Int32)).toInt8.toInt32 then (1 : Int32) else (0 : Int32)) &&& 1) from rfl).trans (by rw [if_pos (own_e4_2 v)]; rfl)
  · exact (show fok5 (2 : Int32) (4 : Int32) v s (s) (s) (((v &&& (127 : Int32)) ||| (128 : Int32)).toInt8.toInt32.toInt8.toInt32) ((((XT.ushr v (7 : Int32)) &&& (127 : Int32)) ||| (128 : Int32)).toInt8.toInt32.toInt8.toInt32) ((((XT.ushr (XT.ushr v (7 : Int32)) (7 : Int32)) &&& (127 : Int32)) ||| (128 : Int32)).toInt8.toInt32.toInt8.toInt32) ((XT.ushr (XT.ushr (XT.ushr v (7 : Int32)) (7 : Int32)) (7 : Int32)).toInt8.toInt32.toInt8.toInt32) (s) (s) (s) = ((if (XT.ushr (XT.ushr (XT.ushr v (7 : Int32)) (7 : Int32)) (7 : Int32)).toInt8.toInt32.toInt8.toInt32 = ((XT.ushr v (21 : Int32)) &&& (127 : Int32)).toInt8.toInt32 then (1 : Int32) else (0 : Int32)) &&& 1) from rfl).trans (by rw [if_pos (own_e4_3 v h3)]; rfl)
  · exact (show fok6 (2 : Int32) (4 : Int32) v s (s) (s) (((v &&& (127 : Int32)) ||| (128 : Int32)).toInt8.toInt32.toInt8.toInt32) ((((XT.ushr v (7 : Int32)) &&& (127 : Int32)) ||| (128 : Int32)).toInt8.toInt32.toInt8.toInt32) ((((XT.ushr (XT.ushr v (7 : Int32)) (7 : Int32)) &&& (127 : Int32)) ||| (128 : Int32)).toInt8.toInt32.toInt8.toInt32) ((XT.ushr (XT.ushr (XT.ushr v (7 : Int32)) (7 : Int32)) (7 : Int32)).toInt8.toInt32.toInt8.toInt32) (s) (s) (s) = ((if s = s then (1 : Int32) else (0 : Int32)) &&& 1) from rfl).trans (by rw [if_pos rfl]; rfl)
  · exact (show fok7 (2 : Int32) (4 : Int32) v s (s) (s) (((v &&& (127 : Int32)) ||| (128 : Int32)).toInt8.toInt32.toInt8.toInt32) ((((XT.ushr v (7 : Int32)) &&& (127 : Int32)) ||| (128 : Int32)).toInt8.toInt32.toInt8.toInt32) ((((XT.ushr (XT.ushr v (7 : Int32)) (7 : Int32)) &&& (127 : Int32)) ||| (128 : Int32)).toInt8.toInt32.toInt8.toInt32) ((XT.ushr (XT.ushr (XT.ushr v (7 : Int32)) (7 : Int32)) (7 : Int32)).toInt8.toInt32.toInt8.toInt32) (s) (s) (s) = ((if s = s then (1 : Int32) else (0 : Int32)) &&& 1) from rfl).trans (by rw [if_pos rfl]; rfl)
  · exact (show fok8 (2 : Int32) (4 : Int32) v s (s) (s) (((v &&& (127 : Int32)) ||| (128 : Int32)).toInt8.toInt32.toInt8.toInt32) ((((XT.ushr v (7 : Int32)) &&& (127 : Int32)) ||| (128 : Int32)).toInt8.toInt32.toInt8.toInt32) ((((XT.ushr (XT.ushr v (7 : Int32)) (7 : Int32)) &&& (127 : Int32)) ||| (128 : Int32)).toInt8.toInt32.toInt8.toInt32) ((XT.ushr (XT.ushr (XT.ushr v (7 : Int32)) (7 : Int32)) (7 : Int32)).toInt8.toInt32.toInt8.toInt32) (s) (s) (s) = ((if s = s then (1 : Int32) else (0 : Int32)) &&& 1) from rfl).trans (by rw [if_pos rfl]; rfl)
theorem own_c4_3 (v s : Int32) (h0 : ¬ ((v &&& (-128 : Int32)) = 0)) (h1 : ¬ (((XT.ushr v (7 : Int32)) &&& (-128 : Int32)) = 0)) (h2 : ¬ (((XT.ushr (XT.ushr v (7 : Int32)) (7 : Int32)) &&& (-128 : Int32)) = 0)) (h3 : ((XT.ushr (XT.ushr (XT.ushr v (7 : Int32)) (7 : Int32)) (7 : Int32)) &&& (-128 : Int32)) = 0) : f1 (3 : Int32) v s s s s s s s s s = (3 : Int32) + (4 : Int32) ∧ fok0 (3 : Int32) (4 : Int32) v s (f1_x0 (3 : Int32) v s s s s s s s s s) (f1_x1 (3 : Int32) v s s s s s s s s s) (f1_x2 (3 : Int32) v s s s s s s s s s) (f1_x3 (3 : Int32) v s s s s s s s s s) (f1_x4 (3 : Int32) v s s s s s s s s s) (f1_x5 (3 : Int32) v s s s s s s s s s) (f1_x6 (3 : Int32) v s s s s s s s s s) (f1_x7 (3 : Int32) v s s s s s s s s s) (f1_x8 (3 : Int32) v s s s s s s s s s) = 1 ∧ fok1 (3 : Int32) (4 : Int32) v s (f1_x0 (3 : Int32) v s s s s s s s s s) (f1_x1 (3 : Int32) v s s s s s s s s s) (f1_x2 (3 : Int32) v s s s s s s s s s) (f1_x3 (3 : Int32) v s s s s s s s s s) (f1_x4 (3 : Int32) v s s s s s s s s s) (f1_x5 (3 : Int32) v s s s s s s s s s) (f1_x6 (3 : Int32) v s s s s s s s s s) (f1_x7 (3 : Int32) v s s s s s s s s s) (f1_x8 (3 : Int32) v s s s s s s s s s) = 1 ∧ fok2 (3 : Int32) (4 : Int32) v s (f1_x0 (3 : Int32) v s s s s s s s s s) (f1_x1 (3 : Int32) v s s s s s s s s s) (f1_x2 (3 : Int32) v s s s s s s s s s) (f1_x3 (3 : Int32) v s s s s s s s s s) (f1_x4 (3 : Int32) v s s s s s s s s s) (f1_x5 (3 : Int32) v s s s s s s s s s) (f1_x6 (3 : Int32) v s s s s s s s s s) (f1_x7 (3 : Int32) v s s s s s s s s s) (f1_x8 (3 : Int32) v s s s s s s s s s) = 1 ∧ fok3 (3 : Int32) (4 : Int32) v s (f1_x0 (3 : Int32) v s s s s s s s s s) (f1_x1 (3 : Int32) v s s s s s s s s s) (f1_x2 (3 : Int32) v s s s s s s s s s) (f1_x3 (3 : Int32) v s s s s s s s s s) (f1_x4 (3 : Int32) v s s s s s s s s s) (f1_x5 (3 : Int32) v s s s s s s s s s) (f1_x6 (3 : Int32) v s s s s s s s s s) (f1_x7 (3 : Int32) v s s s s s s s s s) (f1_x8 (3 : Int32) v s s s s s s s s s) = 1 ∧ fok4 (3 : Int32) (4 : Int32) v s (f1_x0 (3 : Int32) v s s s s s s s s s) (f1_x1 (3 : Int32) v s s s s s s s s s) (f1_x2 (3 : Int32) v s s s s s s s s s) (f1_x3 (3 : Int32) v s s s s s s s s s) (f1_x4 (3 : Int32) v s s s s s s s s s) (f1_x5 (3 : Int32) v s s s s s s s s s) (f1_x6 (3 : Int32) v s s s s s s s s s) (f1_x7 (3 : Int32) v s s s s s s s s s) (f1_x8 (3 : Int32) v s s s s s s s s s) = 1 ∧ fok5 (3 : Int32) (4 : Int32) v s (f1_x0 (3 : Int32) v s s s s s s s s s) (f1_x1 (3 : Int32) v s s s s s s s s s) (f1_x2 (3 : Int32) v s s s s s s s s s) (f1_x3 (3 : Int32) v s s s s s s s s s) (f1_x4 (3 : Int32) v s s s s s s s s s) (f1_x5 (3 : Int32) v s s s s s s s s s) (f1_x6 (3 : Int32) v s s s s s s s s s) (f1_x7 (3 : Int32) v s s s s s s s s s) (f1_x8 (3 : Int32) v s s s s s s s s s) = 1 ∧ fok6 (3 : Int32) (4 : Int32) v s (f1_x0 (3 : Int32) v s s s s s s s s s) (f1_x1 (3 : Int32) v s s s s s s s s s) (f1_x2 (3 : Int32) v s s s s s s s s s) (f1_x3 (3 : Int32) v s s s s s s s s s) (f1_x4 (3 : Int32) v s s s s s s s s s) (f1_x5 (3 : Int32) v s s s s s s s s s) (f1_x6 (3 : Int32) v s s s s s s s s s) (f1_x7 (3 : Int32) v s s s s s s s s s) (f1_x8 (3 : Int32) v s s s s s s s s s) = 1 ∧ fok7 (3 : Int32) (4 : Int32) v s (f1_x0 (3 : Int32) v s s s s s s s s s) (f1_x1 (3 : Int32) v s s s s s s s s s) (f1_x2 (3 : Int32) v s s s s s s s s s) (f1_x3 (3 : Int32) v s s s s s s s s s) (f1_x4 (3 : Int32) v s s s s s s s s s) (f1_x5 (3 : Int32) v s s s s s s s s s) (f1_x6 (3 : Int32) v s s s s s s s s s) (f1_x7 (3 : Int32) v s s s s s s s s s) (f1_x8 (3 : Int32) v s s s s s s s s s) = 1 ∧ fok8 (3 : Int32) (4 : Int32) v s (f1_x0 (3 : Int32) v s s s s s s s s s) (f1_x1 (3 : Int32) v s s s s s s s s s) (f1_x2 (3 : Int32) v s s s s s s s s s) (f1_x3 (3 : Int32) v s s s s s s s s s) (f1_x4 (3 : Int32) v s s s s s s s s s) (f1_x5 (3 : Int32) v s s s s s s s s s) (f1_x6 (3 : Int32) v s s s s s s s s s) (f1_x7 (3 : Int32) v s s s s s s s s s) (f1_x8 (3 : Int32) v s s s s s s s s s) = 1 := by
  have x0 : f1_x0 (3 : Int32) v s s s s s s s s s = s := by simp only [f1_x0, if_neg h0, if_neg h1, if_neg h2, if_pos h3]; rfl
  have x1 : f1_x1 (3 : Int32) v s s s s s s s s s = s := by simp only [f1_x1, if_neg h0, if_neg h1, if_neg h2, if_pos h3]; rfl
  have x2 : f1_x2 (3 : Int32) v s s s s s s s s s = s := by simp only [f1_x2, if_neg h0, if_neg h1, if_neg h2, if_pos h3]; rfl
  have x3 : f1_x3 (3 : Int32) v s s s s s s s s s = ((v &&& (127 : Int32)) ||| (128 : Int32)).toInt8.toInt32.toInt8.toInt32 := by simp only [f1_x3, if_neg h0, if_neg h1, if_neg h2, if_pos h3]; rfl
  have x4 : f1_x4 (3 : Int32) v s s s s s s s s s = (((XT.ushr v (7 : Int32)) &&& (127 : Int32)) ||| (128 : Int32)).toInt8.toInt32.toInt8.toInt32 := by simp only [f1_x4, if_neg h0, if_neg h1, if_neg h2, if_pos h3]; rfl
  have x5 : f1_x5 (3 : Int32) v s s s s s s s s s = (((XT.ushr (XT.ushr v (7 : Int32)) (7 : Int32)) &&& (127 : Int32)) ||| (128 : Int32)).toInt8.toInt32.toInt8.toInt32 := by simp only [f1_x5, if_neg h0, if_neg h1, if_neg h2, if_pos h3]; rfl
  have x6 : f1_x6 (3 : Int32) v s s s s s s s s s = (XT.ushr (XT.ushr (XT.ushr v (7 : Int32)) (7 : Int32)) (7 : Int32)).toInt8.toInt32.toInt8.toInt32 := by simp only [f1_x6, if_neg h0, if_neg h1, if_neg h2, if_pos h3]; rfl
  have x7 : f1_x7 (3 : Int32) v s s s s s s s s s = s := by simp only [f1_x7, if_neg h0, if_neg h1, if_neg h2, if_pos h3]; rfl
  have x8 : f1_x8 (3 : Int32) v s s s s s s s s s = s := by simp only [f1_x8, if_neg h0, if_neg h1, if_neg h2, if_pos h3]; rfl
  rw [x0, x1, x2, x3, x4, x5, x6, x7, x8]
  refine ⟨by simp only [f1, if_neg h0, if_neg h1, if_neg h2, if_pos h3]; try rfl, ?_, ?_, ?_, ?_, ?_, ?_, ?_, ?_, ?_⟩
  · exact (show fok0 (3 : Int32) (4 : Int32) v s (s) (s) (s) (((v &&& (127 : Int32)) ||| (128 : Int32)).toInt8.toInt32.toInt8.toInt32) ((((XT.ushr v (7 : Int32)) &&& (127 : Int32)) ||| (128 : Int32)).toInt8.toInt32.toInt8.toInt32) ((((XT.ushr (XT.ushr v (7 : Int32)) (7 : Int32)) &&& (127 : Int32)) ||| (128 : Int32)).toInt8.toInt32.toInt8.toInt32) ((XT.ushr (XT.ushr (XT.ushr v (7 : Int32)) (7 : Int32)) (7 : Int32)).toInt8.toInt32.toInt8.toInt32) (s) (s) = ((if s = s then (1 : Int32) else (0 : Int32)) &&& 1) from rfl).trans (by rw [if_pos rfl]; rfl)
  · exact (show fok1 (3 : Int32) (4 : Int32) v s (s) (s) (s) (((v &&& (127 : Int32)) ||| (128 : Int32)).toInt8.toInt32.toInt8.toInt32) ((((XT.ushr v (7 : Int32)) &&& (127 : Int32)) ||| (128 : Int32)).toInt8.toInt32.toInt8.toInt32) ((((XT.ushr (XT.ushr v (7 : Int32)) (7 : Int32)) &&& (127 : Int32)) ||| (128 : Int32)).toInt8.toInt32.toInt8.toInt32) ((XT.ushr (XT.ushr (XT.ushr v (7 : Int32)) (7 : Int32)) (7 : Int32)).toInt8.toInt32.toInt8.toInt32) (s) (s) = ((if s = s then (1 : Int32) else (0 : Int32)) &&& 1) from rfl).trans (by rw [if_pos rfl]; rfl)
  · exact (show fok2 (3 : Int32) (4 : Int32) v s (s) (s) (s) (((v &&& (127 : Int32)) ||| (128 : Int32)).toInt8.toInt32.toInt8.toInt32) ((((XT.ushr v (7 : Int32)) &&& (127 : Int32)) ||| (128 : Int32)).toInt8.toInt32.toInt8.toInt32) ((((XT.ushr (XT.ushr v (7 : Int32)) (7 : Int32)) &&& (127 : Int32)) ||| (128 : Int32)).toInt8.toInt32.toInt8.toInt32) ((XT.ushr (XT.ushr (XT.ushr v (7 : Int32)) (7 : Int32)) (7 : Int32)).toInt8.toInt32.toInt8.toInt32) (s) (s) = ((if s = s then (1 : Int32) else (0 : Int32)) &&& 1) from rfl).trans (by rw [if_pos rfl]; rfl)
  · exact (show fok3 (3 : Int32) (4 : Int32) v s (s) (s) (s) (((v &&& (127 : Int32)) ||| (128 : Int32)).toInt8.toInt32.toInt8.toInt32) ((((XT.ushr v (7 : Int32)) &&& (127 : Int32)) ||| (128 : Int32)).toInt8.toInt32.toInt8.toInt32) ((((XT.ushr (XT.ushr v (7 : Int32)) (7 : Int32)) &&& (127 : Int32)) ||| (128 : Int32)).toInt8.toInt32.toInt8.toInt32) ((XT.ushr (XT.ushr (XT.ushr v (7 : Int32)) (7 : Int32)) (7 : Int32)).toInt8.toInt32.toInt8.toInt32) (s) (s) = ((if ((v &&& (127 : Int32)) ||| (128 : Int32)).toInt8.toInt32.toInt8.toInt32 = (((XT.ushr v (0 : Int32)) &&& (127 : Int32)) ||| (128 : Int32)).toInt8.toInt32 then (1 : Int32) else (0 : Int32)) &&& 1) from rfl).trans (by rw [if_pos (own_e4_0 v)]; rfl)
  · exact (show fok4 (3 : Int32) (4 : Int32) v s (s) (s) (s) (((v &&& (127 : Int32)) ||| (128 : Int32)).toInt8.toInt32.toInt8.toInt32) ((((XT.ushr v (7 : Int32)) &&& (127 : Int32)) ||| (128 : Int32)).toInt8.toInt32.toInt8.toInt32) ((((XT.ushr (XT.ushr v (7 : Int32)) (7 : Int32)) &&& (127 : Int32)) ||| (128 : Int32)).toInt8.toInt32.toInt8.toInt32) ((XT.ushr (XT.ushr (XT.ushr v (7 : Int32)) (7 : Int32)) (7 : Int32)).toInt8.toInt32.toInt8.toInt32) (s) (s) = ((if (((XT.ushr v (7 : Int32)) &&& (127 : Int32)) ||| (128 : Int32)).toInt8.toInt32.toInt8.toInt32 = (((XT.ushr v (7 : Int32)) &&& (127 : Int32)) ||| (128 : Int32)).toInt8.toInt32 then (1 : Int32) else (0 : Int32)) &&& 1) from rfl).trans (by rw [if_pos (own_e4_1 v)]; rfl)
  · exact (show fok5 (3 : Int32) (4 : Int32) v s (s) (s) (s) (((v &&& (127 : Int32)) ||| (128 : Int32)).toInt8.toInt32.toInt8.toInt32) ((((XT.ushr v (7 : Int32)) &&& (127 : Int32)) ||| (128 : Int32)).toInt8.toInt32.toInt8.toInt32) ((((XT.ushr (XT.ushr v (7 : Int32)) (7 : Int32)) &&& (127 : Int32)) ||| (128 : Int32)).toInt8.toInt32.toInt8.toInt32) ((XT.ushr (XT.ushr (XT.ushr v (7 : Int32)) (7 : Int32)) (7 : Int32)).toInt8.toInt32.toInt8.toInt32) (s) (s) = ((if (((XT.ushr (XT.ushr v (7 : Int32)) (7 : Int32)) &&& (127 : Int32)) ||| (128 : Int32)).toInt8.toInt32.toInt8.toInt32 = (((XT.ushr v (14 : Int32)) &&& (127 : Int32)) ||| (128 : Int32)).toInt8.toInt32 then (1 : Int32) else (0 : Int32)) &&& 1) from rfl).trans (by rw [if_pos (own_e4_2 v)]; rfl)
  · exact (show fok6 (3 : Int32) (4 : Int32) v s (s) (s) (s) (((v &&& (127 : Int32)) ||| (128 : Int32)).toInt8.toInt32.toInt8.toInt32) ((((XT.ushr v (7 : Int32)) &&& (127 : Int32)) ||| (128 : Int32)).toInt8.toInt32.toInt8.toInt32) ((((XT.ushr (XT.ushr v (7 : Int32)) (7 : Int32)) &&& (127 : Int32)) ||| (128 : Int32)).toInt8.toInt32.toInt8.toInt32) ((XT.ushr (XT.ushr (XT.ushr v (7 : Int32)) (7 : Int32)) (7 : Int32)).toInt8.toInt32.toInt8.toInt32) (s) (s) = ((if (XT.ushr (XT.ushr (XT.ushr v (7 : Int32)) (7 : Int32)) (7 : Int32)).toInt8.toInt32.toInt8.toInt32 = ((XT.ushr v (21 : Int32)) &&& (127 : Int32)).toInt8.toInt32 then (1 : Int32) else (0 : Int32)) &&& 1) from rfl).trans (by rw [if_pos (own_e4_3 v h3)]; rfl)
  · exact (show fok7 (3 : Int32) (4 : Int32) v s (s) (s) (s) (((v &&& (127 : Int32)) ||| (128 : Int32)).toInt8.toInt32.toInt8.toInt32) ((((XT.ushr v (7 : Int32)) &&& (127 : Int32)) ||| (128 : Int32)).toInt8.toInt32.toInt8.toInt32) ((((XT.ushr (XT.ushr v (7 : Int32)) (7 : Int32)) &&& (127 : Int32)) ||| (128 : Int32)).toInt8.toInt32.toInt8.toInt32) ((XT.ushr (XT.ushr (XT.ushr v (7 : Int32)) (7 : Int32)) (7 : Int32)).toInt8.toInt32.toInt8.toInt32) (s) (s) = ((if s = s then (1 : Int32) else (0 : Int32)) &&& 1) from rfl).trans (by rw [if_pos rfl]; rfl)
  · exact (show fok8 (3 : Int32) (4 : Int32) v s (s) (s) (s) (((v &&& (127 : Int32)) ||| (128 : Int32)).toInt8.toInt32.toInt8.toInt32) ((((XT.ushr v (7 : Int32)) &&& (127 : Int32)) ||| (128 : Int32)).toInt8.toInt32.toInt8.toInt32) ((((XT.ushr (XT.ushr v (7 : Int32)) (7 : Int32)) &&& (127 : Int32)) ||| (128 : Int32)).toInt8.toInt32.toInt8.toInt32) ((XT.ushr (XT.ushr (XT.ushr v (7 : Int32)) (7 : Int32)) (7 : Int32)).toInt8.toInt32.toInt8.toInt32) (s) (s) = ((if s = s then (1 : Int32) else (0 : Int32)) &&& 1) from rfl).trans (by rw [if_pos rfl]; rfl)
theorem own_e5_0 (v : Int32) : ((v &&& (127 : Int32)) ||| (128 : Int32)).toInt8.toInt32.toInt8.toInt32 = (((XT.ushr v (0 : Int32)) &&& (127 : Int32)) ||| (128 : Int32)).toInt8.toInt32 := by rw [own_ii, ← own_t0]
theorem own_e5_1 (v : Int32) : (((XT.ushr v (7 : Int32)) &&& (127 : Int32)) ||| (128 : Int32)).toInt8.toInt32.toInt8.toInt32 = (((XT.ushr v (7 : Int32)) &&& (127 : Int32)) ||| (128 : Int32)).toInt8.toInt32 := by rw [own_ii, ← own_t1]
theorem own_e5_2 (v : Int32) : (((XT.ushr (XT.ushr v (7 : Int32)) (7 : Int32)) &&& (127 : Int32)) ||| (128 : Int32)).toInt8.toInt32.toInt8.toInt32 = (((XT.ushr v (14 : Int32)) &&& (127 : Int32)) ||| (128 : Int32)).toInt8.toInt32 := by rw [own_ii, ← own_t2]
theorem own_e5_3 (v : Int32) : (((XT.ushr (XT.ushr (XT.ushr v (7 : Int32)) (7 : Int32)) (7 : Int32)) &&& (127 : Int32)) ||| (128 : Int32)).toInt8.toInt32.toInt8.toInt32 = (((XT.ushr v (21 : Int32)) &&& (127 : Int32)) ||| (128 : Int32)).toInt8.toInt32 := by rw [own_ii, ← own_t3]
theorem own_e5_4 (v : Int32)  : (XT.ushr (XT.ushr (XT.ushr (XT.ushr v (7 : Int32)) (7 : Int32)) (7 : Int32)) (7 : Int32)).toInt8.toInt32.toInt8.toInt32 = ((XT.ushr v (28 : Int32)) &&& (127 : Int32)).toInt8.toInt32 := by rw [own_ii, ← own_t4, own_low _ (own_28 v)]
theorem own_c5_0 (v s : Int32) (h0 : ¬ ((v &&& (-128 : Int32)) = 0)) (h1 : ¬ (((XT.ushr v (7 : Int32)) &&& (-128 : Int32)) = 0)) (h2 : ¬ (((XT.ushr (XT.ushr v (7 : Int32)) (7 : Int32)) &&& (-128 : Int32)) = 0)) (h3 : ¬ (((XT.ushr (XT.ushr (XT.ushr v (7 : Int32)) (7 : Int32)) (7 : Int32)) &&& (-128 : Int32)) = 0)) : f1 (0 : Int32) v s s s s s s s s s = (0 : Int32) + (5 : Int32) ∧ fok0 (0 : Int32) (5 : Int32) v s (f1_x0 (0 : Int32) v s s s s s s s s s) (f1_x1 (0 : Int32) v s s s s s s s s s) (f1_x2 (0 : Int32) v s s s s s s s s s) (f1_x3 (0 : Int32) v s s s s s s s s s) (f1_x4 (0 : Int32) v s s s s s s s s s) (f1_x5 (0 : Int32) v s s s s s s s s s) (f1_x6 (0 : Int32) v s s s s s s s s s) (f1_x7 (0 : Int32) v s s s s s s s s s) (f1_x8 (0 : Int32) v s s s s s s s s s) = 1 ∧ fok1 (0 : Int32) (5 : Int32) v s (f1_x0 (0 : Int32) v s s s s s s s s s) (f1_x1 (0 : Int32) v s s s s s s s s s) (f1_x2 (0 : Int32) v s s s s s s s s s) (f1_x3 (0 : Int32) v s s s s s s s s s) (f1_x4 (0 : Int32) v s s s s s s s s s) (f1_x5 (0 : Int32) v s s s s s s s s s) (f1_x6 (0 : Int32) v s s s s s s s s s) (f1_x7 (0 : Int32) v s s s s s s s s s) (f1_x8 (0 : Int32) v s s s s s s s s s) = 1 ∧ fok2 (0 : Int32) (5 : Int32) v s (f1_x0 (0 : Int32) v s s s s s s s s s) (f1_x1 (0 : Int32) v s s s s s s s s s) (f1_x2 (0 : Int32) v s s s s s s s s s) (f1_x3 (0 : Int32) v s s s s s s s s s) (f1_x4 (0 : Int32) v s s s s s s s s s) (f1_x5 (0 : Int32) v s s s s s s s s s) (f1_x6 (0 : Int32) v s s s s s s s s s) (f1_x7 (0 : Int32) v s s s s s s s s s) (f1_x8 (0 : Int32) v s s s s s s s s s) = 1 ∧ fok3 (0 : Int32) (5 : Int32) v s (f1_x0 (0 : Int32) v s s s s s s s s s) (f1_x1 (0 : Int32) v s s s s s s s s s) (f1_x2 (0 : Int32) v s s s s s s s s s) (f1_x3 (0 : Int32) v s s s s s s s s s) (f1_x4 (0 : Int32) v s s s s s s s s s) (f1_x5 (0 : Int32) v s s s s s s s s s) (f1_x6 (0 : Int32) v s s s s s s s s s) (f1_x7 (0 : Int32) v s s s s s s s s s) (f1_x8 (0 : Int32) v s s s s s s s s s) = 1 ∧ fok4 (0 : Int32) (5 : Int32) v s (f1_x0 (0 : Int32) v s s s s s s s s s) (f1_x1 (0 : Int32) v s s s s s s s s s) (f1_x2 (0 : Int32) v s s s s s s s s s) (f1_x3 (0 : Int32) v s s s s s s s s s) (f1_x4 (0 : Int32) v s s s s s s s s s) (f1_x5 (0 : Int32) v s s s s s s s s s) (f1_x6 (0 : Int32) v s s s s s s s s s) (f1_x7 (0 : Int32) v s s s s s s s s s) (f1_x8 (0 : Int32) v s s s s s s s s s) = 1 ∧ fok5 (0 : Int32) (5 : Int32) v s (f1_x0 (0 : Int32) v s s s s s s s s s) (f1_x1 (0 : Int32) v s s s s s s s s s) (f1_x2 (0 : Int32) v s s s s s s s s s) (f1_x3 (0 : Int32) v s s s s s s s s s) (f1_x4 (0 : Int32) v s s s s s s s s s) (f1_x5 (0 : Int32) v s s s s s s s s s) (f1_x6 (0 : Int32) v s s s s s s s s s) (f1_x7 (0 : Int32) v s s s s s s s s s) (f1_x8 (0 : Int32) v s s s s s s s s s) = 1 ∧ fok6 (0 : Int32) (5 : Int32) v s (f1_x0 (0 : Int32) v s s s s s s s s s) (f1_x1 (0 : Int32) v s s s s s s s s s) (f1_x2 (0 : Int32) v s s s s s s s s s) (f1_x3 (0 : Int32) v s s s s s s s s s) (f1_x4 (0 : Int32) v s s s s s s s s s) (f1_x5 (0 : Int32) v s s s s s s s s s) (f1_x6 (0 : Int32) v s s s s s s s s s) (f1_x7 (0 : Int32) v s s s s s s s s s) (f1_x8 (0 : Int32) v s s s s s s s s s) = 1 ∧ fok7 (0 : Int32) (5 : Int32) v s (f1_x0 (0 : Int32) v s s s s s s s s s) (f1_x1 (0 : Int32) v s s s s s s s s s) (f1_x2 (0 : Int32) v s s s s s s s s s) (f1_x3 (0 : Int32) v s s s s s s s s s) (f1_x4 (0 : Int32) v s s s s s s s s s) (f1_x5 (0 : Int32) v s s s s s s s s s) (f1_x6 (0 : Int32) v s s s s s s s s s) (f1_x7 (0 : Int32) v s s s s s s s s s) (f1_x8 (0 : Int32) v s s s s s s s s s) = 1 ∧ fok8 (0 : Int32) (5 : Int32) v s (f1_x0 (0 : Int32) v s s s s s s s s s) (f1_x1 (0 : Int32) v s s s s s s s s s) (f1_x2 (0 : Int32) v s s s s s s s s s) (f1_x3 (0 : Int32) v s s s s s s s s s) (f1_x4 (0 : Int32) v s s s s s s s s s) (f1_x5 (0 : Int32) v s s s s s s s s s) (f1_x6 (0 : Int32) v s s s s s s s s s) (f1_x7 (0 : Int32) v s s s s s s s s s) (f1_x8 (0 : Int32) v s s s s s s s s s) = 1 := by
  have x0 : f1_x0 (0 : Int32) v s s s s s s s s s = ((v &&& (127 : Int32)) ||| (128 : Int32)).toInt8.toInt32.toInt8.toInt32 := by simp only [f1_x0, if_neg h0, if_neg h1, if_neg h2, if_neg h3]; rfl
  have x1 : f1_x1 (0 : Int32) v s s s s s s s s s = (((XT.ushr v (7 : Int32)) &&& (127 : Int32)) ||| (128 : Int32)).toInt8.toInt32.toInt8.toInt32 := by simp only [f1_x1, if_neg h0, if_neg h1, if_neg h2, if_neg h3]; rfl
  have x2 : f1_x2 (0 : Int32) v s s s s s s s s s = (((XT.ushr (XT.ushr v (7 : Int32)) (7 : Int32)) &&& (127 : Int32)) ||| (128 : Int32)).toInt8.toInt32.toInt8.toInt32 := by simp only [f1_x2, if_neg h0, if_neg h1, if_neg h2, if_neg h3]; rfl
  have x3 : f1_x3 (0 : Int32) v s s s s s s s s s = (((XT.ushr (XT.ushr (XT.ushr v (7 : Int32)) (7 : Int32)) (7 : Int32)) &&& (127 : Int32)) ||| (128 : Int32)).toInt8.toInt32.toInt8.toInt32 := by simp only [f1_x3, if_neg h0, if_neg h1, if_neg h2, if_neg h3]; rfl
  have x4 : f1_x4 (0 : Int32) v s s s s s s s s s = (XT.ushr (XT.ushr (XT.ushr (XT.ushr v (7 : Int32)) (7 : Int32)) (7 : Int32)) (7 : Int32)).toInt8.toInt32.toInt8.toInt32 := by simp only [f1_x4, if_neg h0, if_neg h1, if_neg h2, if_neg h3]; rfl
  have x5 : f1_x5 (0 : Int32) v s s s s s s s s s = s := by simp only [f1_x5, if_neg h0, if_neg h1, if_neg h2, if_neg h3]; rfl
  have x6 : f1_x6 (0 : Int32) v s s s s s s s s s = s := by simp only [f1_x6, if_neg h0, if_neg h1, if_neg h2, if_neg h3]; rfl
  have x7 : f1_x7 (0 : Int32) v s s s s s s s s s = s := by simp only [f1_x7, if_neg h0, if_neg h1, if_neg h2, if_neg h3]; rfl
  have x8 : f1_x8 (0 : Int32) v s s s s s s s s s = s := by simp only [f1_x8, if_neg h0, if_neg h1, if_neg h2, if_neg h3]; rfl
  rw [x0, x1, x2, x3, x4, x5, x6, x7, x8]
  refine ⟨by simp only [f1, if_neg h0, if_neg h1, if_neg h2, if_neg h3]; try rfl, ?_, ?_, ?_, ?_, ?_, ?_, ?_, ?_, ?_⟩
  · exact (show fok0 (0 : Int32) (5 : Int32) v s (((v &&& (127 : Int32)) ||| (128 : Int32)).toInt8.toInt32.toInt8.toInt32) ((((XT.ushr v (7 : Int32)) &&& (127 : Int32)) ||| (128 : Int32)).toInt8.toInt32.toInt8.toInt32) ((((XT.ushr (XT.ushr v (7 : Int32)) (7 : Int32)) &&& (127 : Int32)) ||| (128 : Int32)).toInt8.toInt32.toInt8.toInt32) ((((XT.ushr (XT.ushr (XT.ushr v (7 : Int32)) (7 : Int32)) (7 : Int32)) &&& (127 : Int32)) ||| (128 : Int32)).toInt8.toInt32.toInt8.toInt32) ((XT.ushr (XT.ushr (XT.ushr (XT.ushr v (7 : Int32)) (7 : Int32)) (7 : Int32)) (7 : Int32)).toInt8.toInt32.toInt8.toInt32) (s) (s) (s) (s) = ((if ((v &&& (127 : Int32)) ||| (128 : Int32)).toInt8.toInt32.toInt8.toInt32 = (((XT.ushr v (0 : Int32)) &&& (127 : Int32)) ||| (128 : Int32)).toInt8.toInt32 then (1 : Int32) else (0 : Int32)) &&& 1) from rfl).trans (by rw [if_pos (own_e5_0 v)]; rfl)
  · exact (show fok1 (0 : Int32) (5 : Int32) v s (((v &&& (127 : Int32)) ||| (128 : Int32)).toInt8.toInt32.toInt8.toInt32) ((((XT.ushr v (7 : Int32)) &&& (127 : Int32)) ||| (128 : Int32)).toInt8.toInt32.toInt8.toInt32) ((((XT.ushr (XT.ushr v (7 : Int32)) (7 : Int32)) &&& (127 : Int32)) ||| (128 : Int32)).toInt8.toInt32.toInt8.toInt32) ((((XT.ushr (XT.ushr (XT.ushr v (7 : Int32)) (7 : Int32)) (7 : Int32)) &&& (127 : Int32)) ||| (128 : Int32)).toInt8.toInt32.toInt8.toInt32) ((XT.ushr (XT.ushr (XT.ushr (XT.ushr v (7 : Int32)) (7 : Int32)) (7 : Int32)) (7 : Int32)).toInt8.toInt32.toInt8.toInt32) (s) (s) (s) (s) = ((if (((XT.ushr v (7 : Int32)) &&& (127 : Int32)) ||| (128 : Int32)).toInt8.toInt32.toInt8.toInt32 = (((XT.ushr v (7 : Int32)) &&& (127 : Int32)) ||| (128 : Int32)).toInt8.toInt32 then (1 : Int32) else (0 : Int32)) &&& 1) from rfl).trans (by rw [if_pos (own_e5_1 v)]; rfl)
  · exact (show fok2 (0 : Int32) (5 : Int32) v s (((v &&& (127 : Int32)) ||| (128 : Int32)).toInt8.toInt32.toInt8.toInt32) ((((XT.ushr v (7 : Int32)) &&& (127 : Int32)) ||| (128 : Int32)).toInt8.toInt32.toInt8.toInt32) ((((XT.ushr (XT.ushr v (7 : Int32)) (7 : Int32)) &&& (127 : Int32)) ||| (128 : Int32)).toInt8.toInt32.toInt8.toInt32) ((((XT.ushr (XT.ushr (XT.ushr v (7 : Int32)) (7 : Int32)) (7 : Int32)) &&& (127 : Int32)) ||| (128 : Int32)).toInt8.toInt32.toInt8.toInt32) ((XT.ushr (XT.ushr (XT.ushr (XT.ushr v (7 : Int32)) (7 : Int32)) (7 : Int32)) (7 : Int32)).toInt8.toInt32.toInt8.toInt32) (s) (s) (s) (s) = ((if (((XT.ushr (XT.ushr v (7 : Int32)) (7 : Int32)) &&& (127 : Int32)) ||| (128 : Int32)).toInt8.toInt32.toInt8.toInt32 = (((XT.ushr v (14 : Int32)) &&& (127 : Int32)) ||| (128 : Int32)).toInt8.toInt32 then (1 : Int32) else (0 : Int32)) &&& 1) from rfl).trans (by rw [if_pos (own_e5_2 v)]; rfl)
  · exact (show fok3 (0 : Int32) (5 : Int32) v s (((v &&& (127 : Int32)) ||| (128 : Int32)).toInt8.toInt32.toInt8.toInt32) ((((XT.ushr v (7 : Int32)) &&& (127 : Int32)) ||| (128 : Int32)).toInt8.toInt32.toInt8.toInt32) ((((XT.ushr (XT.ushr v (7 : Int32)) (7 : Int32)) &&& (127 : Int32)) ||| (128 : Int32)).toInt8.toInt32.toInt8.toInt32) ((((XT.ushr (XT.ushr (XT.ushr v (7 : Int32)) (7 : Int32)) (7 : Int32)) &&& (127 : Int32)) ||| (128 : Int32)).toInt8.toInt32.toInt8.toInt32) ((XT.ushr (XT.ushr (XT.ushr (XT.ushr v (7 : Int32)) (7 : Int32)) (7 : Int32)) (7 : Int32)).toInt8.toInt32.toInt8.toInt32) (s) (s) (s) (s) = ((if (((XT.ushr (XT.ushr (XT.ushr v (7 : Int32)) (7 : Int32)) (7 : Int32)) &&& (127 : Int32)) ||| (128 : Int32)).toInt8.toInt32.toInt8.toInt32 = (((XT.ushr v (21 : Int32)) &&& (127 : Int32)) ||| (128 : Int32)).toInt8.toInt32 then (1 : Int32) else (0 : Int32)) &&& 1) from rfl).trans (by rw [if_pos (own_e5_3 v)]; rfl)
  · exact (show fok4 (0 : Int32) (5 : Int32) v s (((v &&& (127 : Int32)) ||| (128 : Int32)).toInt8.toInt32.toInt8.toInt32) ((((XT.ushr v (7 : Int32)) &&& (127 : Int32)) ||| (128 : Int32)).toInt8.toInt32.toInt8.toInt32) ((((XT.ushr (XT.ushr v (7 : Int32)) (7 : Int32)) &&& (127 : Int32)) ||| (128 : Int32)).toInt8.toInt32.toInt8.toInt32) ((((XT.ushr (XT.ushr (XT.ushr v (7 : Int32)) (7 : Int32)) (7 : Int32)) &&& (127 : Int32)) ||| (128 : Int32)).toInt8.toInt32.toInt8.toInt32) ((XT.ushr (XT.ushr (XT.ushr (XT.ushr v (7 : Int32)) (7 : Int32)) (7 : Int32)) (7 : Int32)).toInt8.toInt32.toInt8.toInt32) (s) (s) (s) (s) = ((if (XT.ushr (XT.ushr (XT.ushr (XT.ushr v (7 : Int32)) (7 : Int32)) (7 : Int32)) (7 : Int32)).toInt8.toInt32.toInt8.toInt32 = ((XT.ushr v (28 : Int32)) &&& (127 : Int32)).toInt8.toInt32 then (1 : Int32) else (0 : Int32)) &&& 1) from rfl).trans (by rw [if_pos (own_e5_4 v)]; rfl)
  · exact (show fok5 (0 : Int32) (5 : Int32) v s (((v &&& (127 : Int32)) ||| (128 : Int32)).toInt8.toInt32.toInt8.toInt32) ((((XT.ushr v (7 : Int32)) &&& (127 : Int32)) ||| (128 : Int32)).toInt8.toInt32.toInt8.toInt32) ((((XT.ushr (XT.ushr v (7 : Int32)) (7 : Int32)) &&& (127 : Int32)) ||| (128 : Int32)).toInt8.toInt32.toInt8.toInt32) ((((XT.ushr (XT.ushr (XT.ushr v (7 : Int32)) (7 : Int32)) (7 : Int32)) &&& (127 : Int32)) ||| (128 : Int32)).toInt8.toInt32.toInt8.toInt32) ((XT.ushr (XT.ushr (XT.ushr (XT.ushr v (7 : Int32)) (7 : Int32)) (7 : Int32)) (7 : Int32)).toInt8.toInt32.toInt8.toInt32) (s) (s) (s) (s) = ((if s = s then (1 : Int32) else (0 : Int32)) &&& 1) from rfl).trans (by rw [if_pos rfl]; rfl)
  · exact (show fok6 (0 : Int32) (5 : Int32) v s (((v &&& (127 : Int32)) ||| (128 : Int32)).toInt8.toInt32.toInt8.toInt32) ((((XT.ushr v (7 : Int32)) &&& (127 : Int32)) ||| (128 : Int32)).toInt8.toInt32.toInt8.toInt32) ((((XT.ushr (XT.ushr v (7 : Int32)) (7 : Int32)) &&& (127 : Int32)) ||| (128 : Int32)).toInt8.toInt32.toInt8.toInt32) ((((XT.ushr (XT.ushr (XT.ushr v (7 : Int32)) (7 : Int32)) (7 : Int32)) &&& (127 : Int32)) ||| (128 : Int32)).toInt8.toInt32.toInt8.toInt32) ((XT.ushr (XT.ushr (XT.ushr (XT.ushr v (7 : Int32)) (7 : Int32)) (7 : Int32)) (7 : Int32)).toInt8.toInt32.toInt8.toInt32) (s) (s) (s) (s) = ((if s = s then (1 : Int32) else (0 : Int32)) &&& 1) from rfl).trans (by rw [if_pos rfl]; rfl)
  · exact (show fok7 (0 : Int32) (5 : Int32) v s (((v &&& (127 : Int32)) ||| (128 : Int32)).toInt8.toInt32.toInt8.toInt32) ((((XT.ushr v (7 : Int32)) &&& (127 : Int32)) ||| (128 : Int32)).toInt8.toInt32.toInt8.toInt32) ((((XT.ushr (XT.ushr v (7 : Int32)) (7 : Int32)) &&& (127 : Int32)) ||| (128 : Int32)).toInt8.toInt32.toInt8.toInt32) ((((XT.ushr (XT.ushr (XT.ushr v (7 : Int32)) (7 : Int32)) (7 : Int32)) &&& (127 : Int32)) ||| (128 : Int32)).toInt8.toInt32.toInt8.toInt32) ((XT.ushr (XT.ushr (XT.ushr (XT.ushr v (7 : Int32)) (7 : Int32)) (7 : Int32)) (7 : Int32)).toInt8.toInt32.toInt8.toInt32) (s) (s) (s) (s) = ((if s = s then (1 : Int32) else (0 : Int32)) &&& 1) from rfl).trans (by rw [if_pos rfl]; rfl)
  · exact (show fok8 (0 : Int32) (5 : Int32) v s (((v &&& (127 : Int32)) ||| (128 : Int32)).toInt8.toInt32.toInt8.toInt32) ((((XT.ushr v (7 : Int32)) &&& (127 : Int32)) ||| (128 : Int32)).toInt8.toInt32.toInt8.toInt32) ((((XT.ushr (XT.ushr v (7 : Int32)) (7 : Int32)) &&& (127 : Int32)) ||| (128 : Int32)).toInt8.toInt32.toInt8.toInt32) ((((XT.ushr (XT.ushr (XT.ushr v (7 : Int32)) (7 : Int32)) (7 : Int32)) &&& (127 : Int32)) ||| (128 : Int32)).toInt8.toInt32.toInt8.toInt32) ((XT.ushr (XT.ushr (XT.ushr (XT.ushr v (7 : Int32)) (7 : Int32)) (7 : Int32)) (7 : Int32)).toInt8.toInt32.toInt8.toInt32) (s) (s) (s) (s) = ((if s = s then (1 : Int32) else (0 : Int32)) &&& 1) from rfl).trans (by rw [if_pos rfl]; rfl)
theorem own_c5_1 (v s : Int32) (h0 : ¬ ((v &&& (-128 : Int32)) = 0)) (h1 : ¬ (((XT.ushr v (7 : Int32)) &&& (-128 : Int32)) = 0)) (h2 : ¬ (((XT.ushr (XT.ushr v (7 : Int32)) (7 : Int32)) &&& (-128 : Int32)) = 0)) (h3 : ¬ (((XT.ushr (XT.ushr (XT.ushr v (7 : Int32)) (7 : Int32)) (7 : Int32)) &&& (-128 : Int32)) = 0)) : f1 (1 : Int32) v s s s s s s s s s = (1 : Int32) + (5 : Int32) ∧ fok0 (1 : Int32) (5 : Int32) v s (f1_x0 (1 : Int32) v s s s s s s s s s) (f1_x1 (1 : Int32) v s s s s s s s s s) (f1_x2 (1 : Int32) v s s s s s s s s s) (f1_x3 (1 : Int32) v s s s s s s s s s) (f1_x4 (1 : Int32) v s s s s s s s s s) (f1_x5 (1 : Int32) v s s s s s s s s s) (f1_x6 (1 : Int32) v s s s s s s s s s) (f1_x7 (1 : Int32) v s s s s s s s s s) (f1_x8 (1 : Int32) v s s s s s s s s s) = 1 ∧ fok1 (1 : Int32) (5 : Int32) v s (f1_x0 (1 : Int32) v s s s s s s s s s) (f1_x1 (1 : Int32) v s s s s s s s s s) (f1_x2 (1 : Int32) v s s s s s s s s s) (f1_x3 (1 : Int32) v s s s s s s s s s) (f1_x4 (1 : Int32) v s s s s s s s s s) (f1_x5 (1 : Int32) v s s s s s s s s s) (f1_x6 (1 : Int32) v s s s s s s s s s) (f1_x7 (1 : Int32) v s s s s s s s s s) (f1_x8 (1 : Int32) v s s s s s s s s s) = 1 ∧ fok2 (1 : Int32) (5 : Int32) v s (f1_x0 (1 : Int32) v s s s s s s s s s) (f1_x1 (1 : Int32) v s s s s s s s s s) (f1_x2 (1 : Int32) v s s s s s s s s s) (f1_x3 (1 : Int32) v s s s s s s s s s) (f1_x4 (1 : Int32) v s s s s s s s s s) (f1_x5 (1 : Int32) v s s s s s s s s s) (f1_x6 (1 : Int32) v s s s s s s s s s) (f1_x7 (1 : Int32) v s s s s s s s s s) (f1_x8 (1 : Int32) v s s s s s s s s s) = 1 ∧ fok3 (1 : Int32) (5 : Int32) v s (f1_x0 (1 : Int32) v s s s s s s s s s) (f1_x1 (1 : Int32) v s s s s s s s s s) (f1_x2 (1 : Int32) v s s s s s s s s s) (f1_x3 (1 : Int32) v s s s s s s s s s) (f1_x4 (1 : Int32) v s s s s s s s s s) (f1_x5 (1 : Int32) v s s s s s s s s s) (f1_x6 (1 : Int32) v s s s s s s s s s) (f1_x7 (1 : Int32) v s s s s s s s s s) (f1_x8 (1 : Int32) v s s s s s s s s s) = 1 ∧ fok4 (1 : Int32) (5 : Int32) v s (f1_x0 (1 : Int32) v s s s s s s s s s) (f1_x1 (1 : Int32) v s s s s s s s s s) (f1_x2 (1 : Int32) v s s s s s s s s s) (f1_x3 (1 : Int32) v s s s s s s s s s) (f1_x4 (1 : Int32) v s s s s s s s s s) (f1_x5 (1 : Int32) v s s s s s s s s s) (f1_x6 (1 : Int32) v s s s s s s s s s) (f1_x7 (1 : Int32) v s s s s s s s s s) (f1_x8 (1 : Int32) v s s s s s s s s s) = 1 ∧ fok5 (1 : Int32) (5 : Int32) v s (f1_x0 (1 : Int32) v s s s s s s s s s) (f1_x1 (1 : Int32) v s s s s s s s s s) (f1_x2 (1 : Int32) v s s s s s s s s s) (f1_x3 (1 : Int32) v s s s s s s s s s) (f1_x4 (1 : Int32) v s s s s s s s s s) (f1_x5 (1 : Int32) v s s s s s s s s s) (f1_x6 (1 : Int32) v s s s s s s s s s) (f1_x7 (1 : Int32) v s s s s s s s s s) (f1_x8 (1 : Int32) v s s s s s s s s s) = 1 ∧ fok6 (1 : Int32) (5 : Int32) v s (f1_x0 (1 : Int32) v s s s s s s s s s) (f1_x1 (1 : Int32) v s s s s s s s s s) (f1_x2 (1 : Int32) v s s s s s s s s s) (f1_x3 (1 : Int32) v s s s s s s s s s) (f1_x4 (1 : Int32) v s s s s s s s s s) (f1_x5 (1 : Int32) v s s s s s s s s s) (f1_x6 (1 : Int32) v s s s s s s s s s) (f1_x7 (1 : Int32) v s s s s s s s s s) (f1_x8 (1 : Int32) v s s s s s s s s s) = 1 ∧ fok7 (1 : Int32) (5 : Int32) v s (f1_x0 (1 : Int32) v s s s s s s s s s) (f1_x1 (1 : Int32) v s s s s s s s s s) (f1_x2 (1 : Int32) v s s s s s s s s s) (f1_x3 (1 : Int32) v s s s s s s s s s) (f1_x4 (1 : Int32) v s s s s s s s s s) (f1_x5 (1 : Int32) v s s s s s s s s s) (f1_x6 (1 : Int32) v s s s s s s s s s) (f1_x7 (1 : Int32) v s s s s s s s s s) (f1_x8 (1 : Int32) v s s s s s s s s s) = 1 ∧ fok8 (1 : Int32) (5 : Int32) v s (f1_x0 (1 : Int32) v s s s s s s s s s) (f1_x1 (1 : Int32) v s s s s s s s s s) (f1_x2 (1 : Int32) v s s s s s s s s s) (f1_x3 (1 : Int32) v s s s s s s s s s) (f1_x4 (1 : Int32) v s s s s s s s s s) (f1_x5 (1 : Int32) v s s s s s s s s s) (f1_x6 (1 : Int32) v s s s s s s s s s) (f1_x7 (1 : Int32) v s s s s s s s s s) (f1_x8 (1 : Int32) v s s s s s s s s s) = 1 := by
  have x0 : f1_x0 (1 : Int32) v s s s s s s s s s = s := by simp only [f1_x0, if_neg h0, if_neg h1, if_neg h2, if_neg h3]; rfl
  have x1 : f1_x1 (1 : Int32) v s s s s s s s s s = ((v &&& (127 : Int32)) ||| (128 : Int32)).toInt8.toInt32.toInt8.toInt32 := by simp only [f1_x1, if_neg h0, if_neg h1, if_neg h2, if_neg h3]; rfl
  have x2 : f1_x2 (1 : Int32) v s s s s s s s s s = (((XT.ushr v (7 : Int32)) &&& (127 : Int32)) ||| (128 : Int32)).toInt8.toInt32.toInt8.toInt32 := by simp only [f1_x2, if_neg h0, if_neg h1, if_neg h2, if_neg h3]; rfl
  have x3 : f1_x3 (1 : Int32) v s s s s s s s s s = (((XT.ushr (XT.ushr v (7 : Int32)) (7 : Int32)) &&& (127 : Int32)) ||| (128 : Int32)).toInt8.toInt32.toInt8.toInt32 := by simp only [f1_x3, if_neg h0, if_neg h1, if_neg h2, if_neg h3]; rfl
  have x4 : f1_x4 (1 : Int32) v s s s s s s s s s = (((XT.ushr (XT.ushr (XT.ushr v (7 : Int32)) (7 : Int32)) (7 : Int32)) &&& (127 : Int32)) ||| (128 : Int32)).toInt8.toInt32.toInt8.toInt32 := by simp only [f1_x4, if_neg h0, if_neg h1, if_neg h2, if_neg h3]; rfl
  have x5 : f1_x5 (1 : Int32) v s s s s s s s s s = (XT.ushr (XT.ushr (XT.ushr (XT.ushr v (7 : Int32)) (7 : Int32)) (7 : Int32)) (7 : Int32)).toInt8.toInt32.toInt8.toInt32 := by simp only [f1_x5, if_neg h0, if_neg h1, if_neg h2, if_neg h3]; rfl
  have x6 : f1_x6 (1 : Int32) v s s s s s s s s s = s := by simp only [f1_x6, if_neg h0, if_neg h1, if_neg h2, if_neg h3]; rfl
  have x7 : f1_x7 (1 : Int32) v s s s s s s s s s = s := by simp only [f1_x7, if_neg h0, if_neg h1, if_neg h2, if_neg h3]; rfl
  have x8 : f1_x8 (1 : Int32) v s s s s s s s s s = s := by simp only [f1_x8, if_neg h0, if_neg h1, if_neg h2, if_neg h3]; rfl
  rw [x0, x1, x2, x3, x4, x5, x6, x7, x8]
  refine ⟨by simp only [f1, if_neg h0, if_neg h1, if_neg h2, if_neg h3]; try rfl, ?_, ?_, ?_, ?_, ?_, ?_, ?_, ?_, ?_⟩
  · exact (show fok0 (1 : Int32) (5 : Int32) v s (s) (((v &&& (127 : Int32)) ||| (128 : Int32)).toInt8.toInt32.toInt8.toInt32) ((((XT.ushr v (7 : Int32)) &&& (127 : Int32)) ||| (128 : Int32)).toInt8.toInt32.toInt8.toInt32) ((((XT.ushr (XT.ushr v (7 : Int32)) (7 : Int32)) &&& (127 : Int32)) ||| (128 : Int32)).toInt8.toInt32.toInt8.toInt32) ((((XT.ushr (XT.ushr (XT.ushr v (7 : Int32)) (7 : Int32)) (7 : Int32)) &&& (127 : Int32)) ||| (128 : Int32)).toInt8.toInt32.toInt8.toInt32) ((XT.ushr (XT.ushr (XT.ushr (XT.ushr v (7 : Int32)) (7 : Int32)) (7 : Int32)) (7 : Int32)).toInt8.toInt32.toInt8.toInt32) (s) (s) (s) = ((if s = s then (1 : Int32) else (0 : Int32)) &&& 1) from rfl).trans (by rw [if_pos rfl]; rfl)
  · exact (show fok1 (1 : Int32) (5 : Int32) v s (s) (((v &&& (127 : Int32)) ||| (128 : Int32)).toInt8.toInt32.toInt8.toInt32) ((((XT.ushr v (7 : Int32)) &&& (127 : Int32)) ||| (128 : Int32)).toInt8.toInt32.toInt8.toInt32) ((((XT.ushr (XT.ushr v (7 : Int32)) (7 : Int32)) &&& (127 : Int32)) ||| (128 : Int32)).toInt8.toInt32.toInt8.toInt32) ((((XT.ushr (XT.ushr (XT.ushr v (7 : Int32)) (7 : Int32)) (7 : Int32)) &&& (127 : Int32)) ||| (128 : Int32)).toInt8.toInt32.toInt8.toInt32) ((XT.ushr (XT.ushr (XT.ushr (XT.ushr v (7 : Int32)) (7 : Int32)) (7 : Int32)) (7 : Int32)).toInt8.toInt32.toInt8.toInt32) (s) (s) (s) = ((if ((v &&& (127 : Int32)) ||| (128 : Int32)).toInt8.toInt32.toInt8.toInt32 = (((XT.ushr v (0 : Int32)) &&& (127 : Int32)) ||| (128 : Int32)).toInt8.toInt32 then (1 : Int32) else (0 : Int32)) &&& 1) from rfl).trans (by rw [if_pos (own_e5_0 v)]; rfl)
  · exact (show fok2 (1 : Int32) (5 : Int32) v s (s) (((v &&& (127 : Int32)) ||| (128 : Int32)).toInt8.toInt32.toInt8.toInt32) ((((XT.ushr v (7 : Int32)) &&& (127 : Int32)) ||| (128 : Int32)).toInt8.toInt32.toInt8.toInt32) ((((XT.ushr (XT.ushr v (7 : Int32)) (7 : Int32)) &&& (127 : Int32)) ||| (128 : Int32)).toInt8.toInt32.toInt8.toInt32) ((((XT.ushr (XT.ushr (XT.ushr v (7 : Int32)) (7 : Int32)) (7 : Int32)) &&& (127 : Int32)) ||| (128 : Int32)).toInt8.toInt32.toInt8.toInt32) ((XT.ushr (XT.ushr (XT.ushr (XT.ushr v (7 : Int32)) (7 : Int32)) (7 : Int32)) (7 : Int32)).toInt8.toInt32.toInt8.toInt32) (s) (s) (s) = ((if (((XT.ushr v (7 : Int32)) &&& (127 : Int32)) ||| (128 : Int32)).toInt8.toInt32.toInt8.toInt32 = (((XT.ushr v (7 : Int32)) &&& (127 : Int32)) ||| (128 : Int32)).toInt8.toInt32 then (1 : Int32) else (0 : Int32)) &&& 1) from rfl).trans (by rw [if_pos (own_e5_1 v)]; rfl)
  · exact (show fok3 (1 : Int32) (5 : Int32) v s (s) (((v &&& (127 : Int32)) ||| (128 : Int32)).toInt8.toInt32.toInt8.toInt32) ((((XT.ushr v (7 : Int32)) &&& (127 : Int32)) ||| (128 : Int32)).toInt8.toInt32.toInt8.toInt32) ((((XT.ushr (XT.ushr v (7 : Int32)) (7 : Int32)) &&& (127 : Int32)) ||| (128 : Int32)).toInt8.toInt32.toInt8.toInt32) ((((XT.ushr (XT.ushr (XT.ushr v (7 : Int32)) (7 : Int32)) (7 : Int32)) &&& (127 : Int32)) ||| (128 : Int32)).toInt8.toInt32.toInt8.toInt32) ((XT.ushr (XT.ushr (XT.ushr (XT.ushr v (7 : Int32)) (7 : Int32)) (7 : Int32)) (7 : Int32)).toInt8.toInt32.toInt8.toInt32) (s) (s) (s) = ((if (((XT.ushr (XT.ushr v (7 : Int32)) (7 : Int32)) &&& (127 : Int32)) ||| (128 : Int32)).toInt8.toInt32.toInt8.toInt32 = (((XT.ushr v (14 : Int32)) &&& (127 : Int32)) ||| (128 : Int32)).toInt8.toInt32 then (1 : Int32) else (0 : Int32)) &&& 1) from rfl).trans (by rw [if_pos (own_e5_2 v)]; rfl)
  · exact (show fok4 (1 : Int32) (5 : Int32) v s (s) (((v &&& (127 : Int32)) ||| (128 : Int32)).toInt8.toInt32.toInt8.toInt32) ((((XT.ushr v (7 : Int32)) &&& (127 : Int32)) ||| (128 : Int32)).toInt8.toInt32.toInt8.toInt32) ((((XT.ushr (XT.ushr v (7 : Int32)) (7 : Int32)) &&& (127 : Int32)) ||| (128 : Int32)).toInt8.toInt32.toInt8.toInt32) ((((XT.ushr (XT.ushr (XT.ushr v (7 : Int32)) (7 : Int32)) (7 : Int32)) &&& (127 : Int32)) ||| (128 : Int32)).toInt8.toInt32.toInt8.toInt32) ((XT.ushr (XT.ushr (XT.ushr (XT.ushr v (7 : Int32)) (7 : Int32)) (7 : Int32)) (7 : Int32)).toInt8.toInt32.toInt8.toInt32) (s) (s) (s) = ((if (((XT.ushr (XT.ushr (XT.ushr v (7 : Int32)) (7 : Int32)) (7 : Int32)) &&& (127 : Int32)) ||| (128 : Int32)).toInt8.toInt32.toInt8.toInt32 = (((XT.ushr v (21 : Int32)) &&& (127 : Int32)) ||| (128 : Int32)).toInt8.toInt32 then (1 : Int32) else (0 : Int32)) &&& 1) from rfl).trans (by rw [if_pos (own_e5_3 v)]; rfl)
  · exact (show fok5 (1 : Int32) (5 : Int32) v s (s) (((v &&& (127 : Int32)) ||| (128 : Int32)).toInt8.toInt32.toInt8.toInt32) ((((XT.ushr v (7 : Int32)) &&& (127 : Int32)) ||| (128 : Int32)).toInt8.toInt32.toInt8.toInt32) ((((XT.ushr (XT.ushr v (7 : Int32)) (7 : Int32)) &&& (127 : Int32)) ||| (128 : Int32)).toInt8.toInt32.toInt8.toInt32) ((((XT.ushr (XT.ushr (XT.ushr v (7 : Int32)) (7 : Int32)) (7 : Int32)) &&& (127 : Int32)) ||| (128 : Int32)).toInt8.toInt32.toInt8.toInt32) ((XT.ushr (XT.ushr (XT.ushr (XT.ushr v (7 : Int32)) (7 : Int32)) (7 : Int32)) (7 : Int32)).toInt8.toInt32.toInt8.toInt32) (s) (s) (s) = ((if (XT.ushr (XT.ushr (XT.ushr (XT.ushr v (7 : Int32)) (7 : Int32)) (7 : Int32)) (7 : Int32)).toInt8.toInt32.toInt8.toInt32 = ((XT.ushr v (28 : Int32)) &&& (127 : Int32)).toInt8.toInt32 then (1 : Int32) else (0 : Int32)) &&& 1) from rfl).trans (by rw [if_pos (own_e5_4 v)]; rfl)
  · exact (show fok6 (1 : Int32) (5 : Int32) v s (s) (((v &&& (127 : Int32)) ||| (128 : Int32)).toInt8.toInt32.toInt8.toInt32) ((((XT.ushr v (7 : Int32)) &&& (127 : Int32)) ||| (128 : Int32)).toInt8.toInt32.toInt8.toInt32) ((((XT.ushr (XT.ushr v (7 : Int32)) (7 : Int32)) &&& (127 : Int32)) ||| (128 : Int32)).toInt8.toInt32.toInt8.toInt32) ((((XT.ushr (XT.ushr (XT.ushr v (7 : Int32)) (7 : Int32)) (7 : Int32)) &&& (127 : Int32)) ||| (128 : Int32)).toInt8.toInt32.toInt8.toInt32) ((XT.ushr (XT.ushr (XT.ushr (XT.ushr v (7 : Int32)) (7 : Int32)) (7 : Int32)) (7 : Int32)).toInt8.toInt32.toInt8.toInt32) (s) (s) (s) = ((if s = s then (1 : Int32) else (0 : Int32)) &&& 1) from rfl).trans (by rw [if_pos rfl]; rfl)
  · exact (show fok7 (1 : Int32) (5 : Int32) v s (s) (((v &&& (127 : Int32)) ||| (128 : Int32)).toInt8.toInt32.toInt8.toInt32) ((((XT.ushr v (7 : Int32)) &&& (127 : Int32)) ||| (128 : Int32)).toInt8.toInt32.toInt8.toInt32) ((((XT.ushr (XT.ushr v (7 : Int32)) (7 : Int32)) &&& (127 : Int32)) ||| (128 : Int32)).toInt8.toInt32.toInt8.toInt32) ((((XT.ushr (XT.ushr (XT.ushr v (7 : Int32)) (7 : Int32)) (7 : Int32)) &&& (127 : Int32)) ||| (128 : Int32)).toInt8.toInt32.toInt8.toInt32) ((XT.ushr (XT.ushr (XT.ushr (XT.ushr v (7 : Int32)) (7 : Int32)) (7 : Int32)) (7 : Int32)).toInt8.toInt32.toInt8.toInt32) (s) (s) (s) = ((if s = s then (1 : Int32) else (0 : Int32)) &&& 1) from rfl).trans (by rw [if_pos rfl]; rfl)
  · exact (show fok8 (1 : Int32) (5 : Int32) v s (s) (((v &&& (127 : Int32)) ||| (128 : Int32)).toInt8.toInt32.toInt8.toInt32) ((((XT.ushr v (7 : Int32)) &&& (127 : Int32)) ||| (128 : Int32)).toInt8.toInt32.toInt8.toInt32) ((((XT.ushr (XT.ushr v (7 : Int32)) (7 : Int32)) &&& (127 : Int32)) ||| (128 : Int32)).toInt8.toInt32.toInt8.toInt32) ((((XT.ushr (XT.ushr (XT.ushr v (7 : Int32)) (7 : Int32)) (7 : Int32)) &&& (127 : Int32)) ||| (128 : Int32)).toInt8.toInt32.toInt8.toInt32) ((XT.ushr (XT.ushr (XT.ushr (XT.ushr v (7 : Int32)) (7 : Int32)) (7 : Int32)) (7 : Int32)).toInt8.toInt32.toInt8.toInt32) (s) (s) (s) = ((if s = s then (1 : Int32) else (0 : Int32)) &&& 1) from rfl).trans (by rw [if_pos rfl]; rfl)
theorem own_c5_2 (v s : Int32) (h0 : ¬ ((v &&& (-128 : Int32)) = 0)) (h1 : ¬ (((XT.ushr v (7 : Int32)) &&& (-128 : Int32)) = 0)) (h2 : ¬ (((XT.ushr (XT.ushr v (7 : Int32)) (7 : Int32)) &&& (-128 : Int32)) = 0)) (h3 : ¬ (((XT.ushr (XT.ushr (XT.ushr v (7 : Int32)) (7 : Int32)) (7 : Int32)) &&& (-128 : Int32)) = 0)) : f1 (2 : Int32) v s s s s s s s s s = (2 : Int32) + (5 : Int32) ∧ fok0 (2 : Int32) (5 : Int32) v s (f1_x0 (2 : Int32) v s s s s s s s s s) (f1_x1 (2 : Int32) v s s s s s s s s s) (f1_x2 (2 : Int32) v s s s s s s s s s) (f1_x3 (2 : Int32) v s s s s s s s s s) (f1_x4 (2 : Int32) v s s s s s s s s s) (f1_x5 (2 : Int32) v s s s s s s s s s) (f1_x6 (2 : Int32) v s s s s s s s s s) (f1_x7 (2 : Int32) v s s s s s s s s s) (f1_x8 (2 : Int32) v s s s s s s s s s) = 1 ∧ fok1 (2 : Int32) (5 : Int32) v s (f1_x0 (2 : Int32) v s s s s s s s s s) (f1_x1 (2 : Int32) v s s s s s s s s s) (f1_x2 (2 : Int32) v s s s s s s s s s) (f1_x3 (2 : Int32) v s s s s s s s s s) (f1_x4 (2 : Int32) v s s s s s s s s s) (f1_x5 (2 : Int32) v s s s s s s s s s) (f1_x6 (2 : Int32) v s s s s s s s s s) (f1_x7 (2 : Int32) v s s s s s s s s s) (f1_x8 (2 : Int32) v s s s s s s s s s) = 1 ∧ fok2 (2 : Int32) (5 : Int32) v s (f1_x0 (2 : Int32) v s s s s s s s s s) (f1_x1 (2 : Int32) v s s s s s s s s s) (f1_x2 (2 : Int32) v s s s s s s s s s) (f1_x3 (2 : Int32) v s s s s s s s s s) (f1_x4 (2 : Int32) v s s s s s s s s s) (f1_x5 (2 : Int32) v s s s s s s s s s) (f1_x6 (2 : Int32) v s s s s s s s s s) (f1_x7 (2 : Int32) v s s s s s s s s s) (f1_x8 (2 : Int32) v s s s s s s s s s) = 1 ∧ fok3 (2 : Int32) (5 : Int32) v s (f1_x0 (2 : Int32) v s s s s s s s s s) (f1_x1 (2 : Int32) v s s s s s s s s s) (f1_x2 (2 : Int32) v s s s s s s s s s) (f1_x3 (2 : Int32) v s s s s s s s s s) (f1_x4 (2 : Int32) v s s s s s s s s s) (f1_x5 (2 : Int32) v s s s s s s s s s) (f1_x6 (2 : Int32) v s s s s s s s s s) (f1_x7 (2 : Int32) v s s s s s s s s s) (f1_x8 (2 : Int32) v s s s s s s s s s) = 1 ∧ fok4 (2 : Int32) (5 : Int32) v s (f1_x0 (2 : Int32) v s s s s s s s s s) (f1_x1 (2 : Int32) v s s s s s s s s s) (f1_x2 (2 : Int32) v s s s s s s s s s) (f1_x3 (2 : Int32) v s s s s s s s s s) (f1_x4 (2 : Int32) v s s s s s s s s s) (f1_x5 (2 : Int32) v s s s s s s s s s) (f1_x6 (2 : Int32) v s s s s s s s s s) (f1_x7 (2 : Int32) v s s s s s s s s s) (f1_x8 (2 : Int32) v s s s s s s s s s) = 1 ∧ fok5 (2 : Int32) (5 : Int32) v s (f1_x0 (2 : Int32) v s s s s s s s s s) (f1_x1 (2 : Int32) v s s s s s s s s s) (f1_x2 (2 : Int32) v s s s s s s s s s) (f1_x3 (2 : Int32) v s s s s s s s s s) (f1_x4 (2 : Int32) v s s s s s s s s s) (f1_x5 (2 : Int32) v s s s s s s s s s) (f1_x6 (2 : Int32) v s s s s s s s s s) (f1_x7 (2 : Int32) v s s s s s s s s s) (f1_x8 (2 : Int32) v s s s s s s s s s) = 1 ∧ fok6 (2 : Int32) (5 : Int32) v s (f1_x0 (2 : Int32) v s s s s s s s s s) (f1_x1 (2 : Int32) v s s s s s s s s s) (f1_x2 (2 : Int32) v s s s s s s s s s) (f1_x3 (2 : Int32) v s s s s s s s s s) (f1_x4 (2 : Int32) v s s s s s s s s s) (f1_x5 (2 : Int32) v s s s s s s s s s) (f1_x6 (2 : Int32) v s s s s s s s s s) (f1_x7 (2 : Int32) v s s s s s s s s s) (f1_x8 (2 : Int32) v s s s s s s s s s) = 1 ∧ fok7 (2 : Int32) (5 : Int32) v s (f1_x0 (2 : Int32) v s s s s s s s s s) (f1_x1 (2 : Int32) v s s s s s s s s s) (f1_x2 (2 : Int32) v s s s s s s s s s) (f1_x3 (2 : Int32) v s s s s s s s s s) (f1_x4 (2 : Int32) v s s s s s s s s s) (f1_x5 (2 : Int32) v s s s s s s s s s) (f1_x6 (2 : Int32) v s s s s s s s s s) (f1_x7 (2 : Int32) v s s s s s s s s s) (f1_x8 (2 : Int32) v s s s s s s s s s) = 1 ∧ fok8 (2 : Int32) (5 : Int32) v s (f1_x0 (2 : Int32) v s s s s s s s s s) (f1_x1 (2 : Int32) v s s s s s s s s s) (f1_x2 (2 : Int32) v s s s s s s s s s) (f1_x3 (2 : Int32) v s s s s s s s s s) (f1_x4 (2 : Int32) v s s s s s s s s s) (f1_x5 (2 : Int32) v s s s s s s s s s) (f1_x6 (2 : Int32) v s s s s s s s s s) (f1_x7 (2 : Int32) v s s s s s s s s s) (f1_x8 (2 : Int32) v s s s s s s s s s) = 1 := by
  have x0 : f1_x0 (2 : Int32) v s s s s s s s s s = s := by simp only [f1_x0, if_neg h0, if_neg h1, if_neg h2, if_neg h3]; rfl
  have x1 : f1_x1 (2 : Int32) v s s s s s s s s s = s := by simp only [f1_x1, if_neg h0, if_neg h1, if_neg h2, if_neg h3]; rfl
  have x2 : f1_x2 (2 : Int32) v s s s s s s s s s = ((v &&& (127 : Int32)) ||| (128 : Int32)).toInt8.toInt32.toInt8.toInt32 := by simp only [f1_x2, if_neg h0, if_neg h1, if_neg h2, if_neg h3]; rfl
  have x3 : f1_x3 (2 : Int32) v s s s s s s s s s = (((XT.ushr v (7 : Int32)) &&& (127 : Int32)) ||| (128 : Int32)).toInt8.toInt32.toInt8.toInt32 := by simp only [f1_x3, if_neg h0, if_neg h1, if_neg h2, if_neg h3]; rfl
  have x4 : f1_x4 (2 : Int32) v s s s s s s s s s = (((XT.ushr (XT.ushr v (7 : Int32)) (7 : Int32)) &&& (127 : Int32)) ||| (128 : Int32)).toInt8.toInt32.toInt8.toInt32 := by simp only [f1_x4, if_neg h0, if_neg h1, if_neg h2, if_neg h3]; rfl
  have x5 : f1_x5 (2 : Int32) v s s s s s s s s s = (((XT.ushr (XT.ushr (XT.ushr v (7 : Int32)) (7 : Int32)) (7 : Int32)) &&& (127 : Int32)) ||| (128 : Int32)).toInt8.toInt32.toInt8.toInt32 := by simp only [f1_x5, if_neg h0, if_neg h1, if_neg h2, if_neg h3]; rfl
  have x6 : f1_x6 (2 : Int32) v s s s s s s s s s = (XT.ushr (XT.ushr (XT.ushr (XT.ushr v (7 : Int32)) (7 : Int32)) (7 : Int32)) (7 : Int32)).toInt8.toInt32.toInt8.toInt32 := by simp only [f1_x6, if_neg h0, if_neg h1, if_neg h2, if_neg h3]; rfl
  have x7 : f1_x7 (2 : Int32) v s s s s s s s s s = s := by simp only [f1_x7, if_neg h0, if_neg h1, if_neg h2, if_neg h3]; rfl
  have x8 : f1_x8 (2 : Int32) v s s s s s s s s s = s := by simp only [f1_x8, if_neg h0, if_neg h1, if_neg h2, if_neg h3]; rfl
  rw [x0, x1, x2, x3, x4, x5, x6, x7, x8]
  refine ⟨by simp only [f1, if_neg h0, if_neg h1, if_neg h2, if_neg h3]; try rfl, ?_, ?_, ?_, ?_, ?_, ?_, ?_, ?_, ?_⟩
  · exact (show fok0 (2 : Int32) (5 : Int32) v s (s) (s) (((v &&& (127 : Int32)) ||| (128 : Int32)).toInt8.toInt32.toInt8.toInt32) ((((XT.ushr v (7 : Int32)) &&& (127 : Int32)) ||| (128 : Int32)).toInt8.toInt32.toInt8.toInt32) ((((XT.ushr (XT.ushr v (7 : Int32)) (7 : Int32)) &&& (127 : Int32)) ||| (128 : Int32)).toInt8.toInt32.toInt8.toInt32) ((((XT.ushr (XT.ushr (XT.ushr v (7 : Int32)) (7 : Int32)) (7 : Int32)) &&& (127 : Int32)) ||| (128 : Int32)).toInt8.toInt32.toInt8.toInt32) ((XT.ushr (XT.ushr (XT.ushr (XT.ushr v (7 : Int32)) (7 : Int32)) (7 : Int32)) (7 : Int32)).toInt8.toInt32.toInt8.toInt32) (s) (s) = ((if s = s then (1 : Int32) else (0 : Int32)) &&& 1) from rfl).trans (by rw [if_pos rfl]; rfl)
  · exact (show fok1 (2 : Int32) (5 : Int32) v s (s) (s) (((v &&& (127 : Int32)) ||| (128 : Int32)).toInt8.toInt32.toInt8.toInt32) ((((XT.ushr v (7 : Int32)) &&& (127 : Int32)) ||| (128 : Int32)).toInt8.toInt32.toInt8.toInt32) ((((XT.ushr (XT.ushr v (7 : Int32)) (7 : Int32)) &&& (127 : Int32)) ||| (128 : Int32)).toInt8.toInt32.toInt8.toInt32) ((((XT.ushr (XT.ushr (XT.ushr v (7 : Int32)) (7 : Int32)) (7 : Int32)) &&& (127 : Int32)) ||| (128 : Int32)).toInt8.toInt32.toInt8.toInt32) ((XT.ushr (XT.ushr (XT.ushr (XT.ushr v (7 : Int32)) (7 : Int32)) (7 : Int32)) (7 : Int32)).toInt8.toInt32.toInt8.toInt32) (s) (s) = ((if s = s then (1 : Int32) else (0 : Int32)) &&& 1) from rfl).trans (by rw [if_pos rfl]; rfl)
  · exact (show fok2 (2 : Int32) (5 : Int32) v s (s) (s) (((v &&& (127 : Int32)) ||| (128 : Int32)).toInt8.toInt32.toInt8.toInt32) ((((XT.ushr v (7 : Int32)) &&& (127 : Int32)) ||| (128 : Int32)).toInt8.toInt32.toInt8.toInt32) ((((XT.ushr (XT.ushr v (7 : Int32)) (7 : Int32)) &&& (127 : Int32)) ||| (128 : Int32)).toInt8.toInt32.toInt8.toInt32) ((((XT.ushr (XT.ushr (XT.ushr v (7 : Int32)) (7 : Int32)) (7 : Int32)) &&& (127 : Int32)) ||| (128 : Int32)).toInt8.toInt32.toInt8.toInt32) ((XT.ushr (XT.ushr (XT.ushr (XT.ushr v (7 : Int32)) (7 : Int32)) (7 : Int32)) (7 : Int32)).toInt8.toInt32.toInt8.toInt32) (s) (s) = ((if ((v &&& (127 : Int32)) ||| (128 : Int32)).toInt8.toInt32.toInt8.toInt32 = (((XT.ushr v (0 : Int32)) &&& (127 : Int32)) ||| (128 : Int32)).toInt8.toInt32 then (1 : Int32) else (0 : Int32)) &&& 1) from rfl).trans (by rw [if_pos (own_e5_0 v)]; rfl)
  · exact (show fok3 (2 : Int32) (5 : Int32) v s (s) (s) (((v &&& (127 : Int32)) ||| (128 : Int32)).toInt8.toInt32.toInt8.toInt32) ((((XT.ushr v (7 : Int32)) &&& (127 : Int32)) ||| (128 : Int32)).toInt8.toInt32.toInt8.toInt32) ((((XT.ushr (XT.ushr v (7 : Int32)) (7 : Int32)) &&& (127 : Int32)) ||| (128 : Int32)).toInt8.toInt32.toInt8.toInt32) ((((XT.ushr (XT.ushr (XT.ushr v (7 : Int32)) (7 : Int32)) (7 : Int32)) &&& (127 : Int32)) ||| (128 : Int32)).toInt8.toInt32.toInt8.toInt32) ((XT.ushr (XT.ushr (XT.ushr (XT.ushr v (7 : Int32)) (7 : Int32)) (7 : Int32)) (7 : Int32)).toInt8.toInt32.toInt8.toInt32) (s) (s) = ((if (((XT.ushr v (7 : Int32)) &&& (127 : Int32)) ||| (128 : Int32)).toInt8.toInt32.toInt8.toInt32 = (((XT.ushr v (7 : Int32)) &&& (127 : Int32)) ||| (128 : Int32)).toInt8.toInt32 then (1 : Int32) else (0 : Int32)) &&& 1) from rfl).trans (by rw [if_pos (own_e5_1 v)]; rfl)
  · exact (show fok4 (2 : Int32) (5 : Int32) v s (s) (s) (((v &&& (127 : Int32)) ||| (128 : Int32)).toInt8.toInt32.toInt8.toInt32) ((((XT.ushr v (7 : Int32)) &&& (127 : Int32)) ||| (128 : Int32)).toInt8.toInt32.toInt8.toInt32) ((((XT.ushr (XT.ushr v (7 : Int32)) (7 : Int32)) &&& (127 : Int32)) ||| (128 : Int32)).toInt8.toInt32.toInt8.toInt32) ((((XT.ushr (XT.ushr (XT.ushr v (7 : Int32)) (7 : Int32)) (7 : Int32)) &&& (127 : Int32)) ||| (128 : Int32)).toInt8.toInt32.toInt8.toInt32) ((XT.ushr (XT.ushr (XT.ushr (XT.ushr v (7 : Int32)) (7 : Int32)) (7 : Int32)) (7 : Int32)).toInt8.toInt32.toInt8.toInt32) (s) (s) = ((if (((XT.ushr (XT.ushr v (7 : Int32)) (7 : Int32)) &&& (127 : Int32)) ||| (128 : Int32)).toInt8.toInt32.toInt8.toInt32 = (((XT.ushr v (14 : Int32)) &&& (127 : Int32)) ||| (128 : Int32)).toInt8.toInt32 then (1 : Int32) else (0 : Int32)) &&& 1) from rfl).trans (by rw [if_pos (own_e5_2 v)]; rfl)
  · exact (show fok5 (2 : Int32) (5 : Int32) v s (s) (s) (((v &&& (127 : Int32)) ||| (128 : Int32)).toInt8.toInt32.toInt8.toInt32) ((((XT.ushr v (7 : Int32)) &&& (127 : Int32)) ||| (128 : Int32)).toInt8.toInt32.toInt8.toInt32) ((((XT.ushr (XT.ushr v (7 : Int32)) (7 : Int32)) &&& (127 : Int32)) ||| (128 : Int32)).toInt8.toInt32.toInt8.toInt32) ((((XT.ushr (XT.ushr (XT.ushr v (7 : Int32)) (7 : Int32)) (7 : Int32)) &&& (127 : Int32)) ||| (128 : Int32)).toInt8.toInt32.toInt8.toInt32) ((XT.ushr (XT.ushr (XT.ushr (XT.ushr v (7 : Int32)) (7 : Int32)) (7 : Int32)) (7 : Int32)).toInt8.toInt32.toInt8.toInt32) (s) (s) = ((if (((XT.ushr (XT.ushr (XT.ushr v (7 : Int32)) (7 : Int32)) (7 : Int32)) &&& (127 : Int32)) ||| (128 : Int32)).toInt8.toInt32.toInt8.toInt32 = (((XT.ushr v (21 : Int32)) &&& (127 : Int32)) ||| (128 : Int32)).toInt8.toInt32 then (1 : Int32) else (0 : Int32)) &&& 1) from rfl).trans (by rw [if_pos (own_e5_3 v)]; rfl)
  · exact (show fok6 (2 : Int32) (5 : Int32) v s (s) (s) (((v &&& (127 : Int32)) ||| (128 : Int32)).toInt8.toInt32.toInt8.toInt32) ((((XT.ushr v (7 : Int32)) &&& (127 : Int32)) ||| (128 : Int32)).toInt8.toInt32.toInt8.toInt32) ((((XT.ushr (XT.ushr v (7 : Int32)) (7 : Int32)) &&& (127 : Int32)) ||| (128 : Int32)).toInt8.toInt32.toInt8.toInt32) ((((XT.ushr (XT.ushr (XT.ushr v (7 : Int32)) (7 : Int32)) (7 : Int32)) &&& (127 : Int32)) ||| (128 : Int32)).toInt8.toInt32.toInt8.toInt32) ((XT.ushr (XT.ushr (XT.ushr (XT.ushr v (7 : Int32)) (7 : Int32)) (7 : Int32)) (7 : Int32)).toInt8.toInt32.toInt8.toInt32) (s) (s) = ((if (XT.ushr (XT.ushr (XT.ushr (XT.ushr v (7 : Int32)) (7 : Int32)) (7 : Int32)) (7 : Int32)).toInt8.toInt32.toInt8.toInt32 = ((XT.ushr v (28 : Int32)) &&& (127 : Int32)).toInt8.toInt32 then (1 : Int32) else (0 : Int32)) &&& 1) from rfl).trans (by rw [if_pos (own_e5_4 v)]; rfl)
  · exact (show fok7 (2 : Int32) (5 : Int32) v s (s) (s) (((v &&& (127 : Int32)) ||| (128 : Int32)).toInt8.toInt32.toInt8.toInt32) ((((XT.ushr v (7 : Int32)) &&& (127 : Int32)) ||| (128 : Int32)).toInt8.toInt32.toInt8.toInt32) ((((XT.ushr (XT.ushr v (7 : Int32)) (7 : Int32)) &&& (127 : Int32)) ||| (128 : Int32)).toInt8.toInt32.toInt8.toInt32) ((((XT.ushr (XT.ushr (XT.ushr v (7 : Int32)) (7 : Int32)) (7 : Int32)) &&& (127 : Int32)) ||| (128 : Int32)).toInt8.toInt32.toInt8.toInt32) ((XT.ushr (XT.ushr (XT.ushr (XT.ushr v (7 : Int32)) (7 : Int32)) (7 : Int32)) (7 : Int32)).toInt8.toInt32.toInt8.toInt32) (s) (s) = ((if s = s then (1 : Int32) else (0 : Int32)) &&& 1) from rfl).trans (by rw [if_pos rfl]; rfl)
  · exact (show fok8 (2 : Int32) (5 : Int32) v s (s) (s) (((v &&& (127 : Int32)) ||| (128 : Int32)).toInt8.toInt32.toInt8.toInt32) ((((XT.ushr v (7 : Int32)) &&& (127 : Int32)) ||| (128 : Int32)).toInt8.toInt32.toInt8.toInt32) ((((XT.ushr (XT.ushr v (7 : Int32)) (7 : Int32)) &&& (127 : Int32)) ||| (128 : Int32)).toInt8.toInt32.toInt8.toInt32) ((((XT.ushr (XT.ushr (XT.ushr v (7 : Int32)) (7 : Int32)) (7 : Int32)) &&& (127 : Int32)) ||| (128 : Int32)).toInt8.toInt32.toInt8.toInt32) ((XT.ushr (XT.ushr (XT.ushr (XT.ushr v (7 : Int32)) (7 : Int32)) (7 : Int32)) (7 : Int32)).toInt8.toInt32.toInt8.toInt32) (s) (s) = ((if s = s then (1 : Int32) else (0 : Int32)) &&& 1) from rfl).trans (by rw [if_pos rfl]; rfl)
theorem own_c5_3 (v s : Int32) (h0 : ¬ ((v &&& (-128 : Int32)) = 0)) (h1 : ¬ (((XT.ushr v (7 : Int32)) &&& (-128 : Int32)) = 0)) (h2 : ¬ (((XT.ushr (XT.ushr v (7 : Int32)) (7 : Int32)) &&& (-128 : Int32)) = 0)) (h3 : ¬ (((XT.ushr (XT.ushr (XT.ushr v (7 : Int32)) (7 : Int32)) (7 : Int32)) &&& (-128 : Int32)) = 0)) : f1 (3 : Int32) v s s s s s s s s s = (3 : Int32) + (5 : Int32) ∧ fok0 (3 : Int32) (5 : Int32) v s (f1_x0 (3 : Int32) v s s s s s s s s s) (f1_x1 (3 : Int32) v s s s s s s s s s) (f1_x2 (3 : Int32) v s s s s s s s s s) (f1_x3 (3 : Int32) v s s s s s s s s s) (f1_x4 (3 : Int32) v s s s s s s s s s) (f1_x5 (3 : Int32) v s s s s s s s s s) (f1_x6 (3 : Int32) v s s s s s s s s s) (f1_x7 (3 : Int32) v s s s s s s s s s) (f1_x8 (3 : Int32) v s s s s s s s s s) = 1 ∧ fok1 (3 : Int32) (5 : Int32) v s (f1_x0 (3 : Int32) v s s s s s s s s s) (f1_x1 (3 : Int32) v s s s s s s s s s) (f1_x2 (3 : Int32) v s s s s s s s s s) (f1_x3 (3 : Int32) v s s s s s s s s s) (f1_x4 (3 : Int32) v s s s s s s s s s) (f1_x5 (3 : Int32) v s s s s s s s s s) (f1_x6 (3 : Int32) v s s s s s s s s s) (f1_x7 (3 : Int32) v s s s s s s s s s) (f1_x8 (3 : Int32) v s s s s s s s s s) = 1 ∧ fok2 (3 : Int32) (5 : Int32) v s (f1_x0 (3 : Int32) v s s s s s s s s s) (f1_x1 (3 : Int32) v s s s s s s s s s) (f1_x2 (3 : Int32) v s s s s s s s s s) (f1_x3 (3 : Int32) v s s s s s s s s s) (f1_x4 (3 : Int32) v s s s s s s s s s) (f1_x5 (3 : Int32) v s s s s s s s s s) (f1_x6 (3 : Int32) v s s s s s s s s s) (f1_x7 (3 : Int32) v s s s s s s s s s) (f1_x8 (3 : Int32) v s s s s s s s s s) = 1 ∧ fok3 (3 : Int32) (5 : Int32) v s (f1_x0 (3 : Int32) v s s s s s s s s s) (f1_x1 (3 : Int32) v s s s s s s s s s) (f1_x2 (3 : Int32) v s s s s s s s s s) (f1_x3 (3 : Int32) v s s s s s s s s s) (f1_x4 (3 : Int32) v s s s s s s s s s) (f1_x5 (3 : Int32) v s s s s s s s s s) (f1_x6 (3 : Int32) v s s s s s s s s s) (f1_x7 (3 : Int32) v s s s s s s s s s) (f1_x8 (3 : Int32) v s s s s s s s s s) = 1 ∧ fok4 (3 : Int32) (5 : Int32) v s (f1_x0 (3 : Int32) v s s s s s s s s s) (f1_x1 (3 : Int32) v s s s s s s s s s) (f1_x2 (3 : Int32) v s s s s s s s s s) (f1_x3 (3 : Int32) v s s s s s s s s s) (f1_x4 (3 : Int32) v s s s s s s s s s) (f1_x5 (3 : Int32) v s s s s s s s s s) (f1_x6 (3 : Int32) v s s s s s s s s s) (f1_x7 (3 : Int32) v s s s s s s s s s) (f1_x8 (3 : Int32) v s s s s s s s s s) = 1 ∧ fok5 (3 : Int32) (5 : Int32) v s (f1_x0 (3 : Int32) v s s s s s s s s s) (f1_x1 (3 : Int32) v s s s s s s s s s) (f1_x2 (3 : Int32) v s s s s s s s s s) (f1_x3 (3 : Int32) v s s s s s s s s s) (f1_x4 (3 : Int32) v s s s s s s s s s) (f1_x5 (3 : Int32) v s s s s s s s s s) (f1_x6 (3 : Int32) v s s s s s s s s s) (f1_x7 (3 : Int32) v s s s s s s s s s) (f1_x8 (3 : Int32) v s s s s s s s s s) = 1 ∧ fok6 (3 : Int32) (5 : Int32) v s (f1_x0 (3 : Int32) v s s s s s s s s s) (f1_x1 (3 : Int32) v s s s s s s s s s) (f1_x2 (3 : Int32) v s s s s s s s s s) (f1_x3 (3 : Int32) v s s s s s s s s s) (f1_x4 (3 : Int32) v s s s s s s s s s) (f1_x5 (3 : Int32) v s s s s s s s s s) (f1_x6 (3 : Int32) v s s s s s s s s s) (f1_x7 (3 : Int32) v s s s s s s s s s) (f1_x8 (3 : Int32) v s s s s s s s s s) = 1 ∧ fok7 (3 : Int32) (5 : Int32) v s (f1_x0 (3 : Int32) v s s s s s s s s s) (f1_x1 (3 : Int32) v s s s s s s s s s) (f1_x2 (3 : Int32) v s s s s s s s s s) (f1_x3 (3 : Int32) v s s s s s s s s s) (f1_x4 (3 : Int32) v s s s s s s s s s) (f1_x5 (3 : Int32) v s s s s s s s s s) (f1_x6 (3 : Int32) v s s s s s s s s s) (f1_x7 (3 : Int32) v s s s s s s s s s) (f1_x8 (3 : Int32) v s s s s s s s s s) = 1 ∧ fok8 (3 : Int32) (5 : Int32) v s (f1_x0 (3 : Int32) v s s s s s s s s s) (f1_x1 (3 : Int32) v s s s s s s s s s) (f1_x2 (3 : Int32) v s s s s s s s s s) (f1_x3 (3 : Int32) v s s s s s s s s s) (f1_x4 (3 : Int32) v s s s s s s s s s) (f1_x5 (3 : Int32) v s s s s s s s s s) (f1_x6 (3 : Int32) v s s s s s s s s s) (f1_x7 (3 : Int32) v s s s s s s s s s) (f1_x8 (3 : Int32) v s s s s s s s s s) = 1 := by
  have x0 : f1_x0 (3 : Int32) v s s s s s s s s s = s := by simp only [f1_x0, if_neg h0, if_neg h1, if_neg h2, if_neg h3]; rfl
  have x1 : f1_x1 (3 : Int32) v s s s s s s s s s = s := by simp only [f1_x1, if_neg h0, if_neg h1, if_neg h2, if_neg h3]; rfl
  have x2 : f1_x2 (3 : Int32) v s s s s s s s s s = s := by simp only [f1_x2, if_neg h0, if_neg h1, if_neg h2, if_neg h3]; rfl
  have x3 : f1_x3 (3 : Int32) v s s s s s s s s s = ((v &&& (127 : Int32)) ||| (128 : Int32)).toInt8.toInt32.toInt8.toInt32 := by simp only [f1_x3, if_neg h0, if_neg h1, if_neg h2, if_neg h3]; rfl
  have x4 : f1_x4 (3 : Int32) v s s s s s s s s s = (((XT.ushr v (7 : Int32)) &&& (127 : Int32)) ||| (128 : Int32)).toInt8.toInt32.toInt8.toInt32 := by simp only [f1_x4, if_neg h0, if_neg h1, if_neg h2, if_neg h3]; rfl
  have x5 : f1_x5 (3 : Int32) v s s s s s s s s s = (((XT.ushr (XT.ushr v (7 : Int32)) (7 : Int32)) &&& (127 : Int32)) ||| (128 : Int32)).toInt8.toInt32.toInt8.toInt32 := by simp only [f1_x5, if_neg h0, if_neg h1, if_neg h2, if_neg h3]; rfl
  have x6 : f1_x6 (3 : Int32) v s s s s s s s s s = (((XT.ushr (XT.ushr (XT.ushr v (7 : Int32)) (7 : Int32)) (7 : Int32)) &&& (127 : Int32)) ||| (128 : Int32)).toInt8.toInt32.toInt8.toInt32 := by simp only [f1_x6, if_neg h0, if_neg h1, if_neg h2, if_neg h3]; rfl
  have x7 : f1_x7 (3 : Int32) v s s s s s s s s s = (XT.ushr (XT.ushr (XT.ushr (XT.ushr v (7 : Int32)) (7 : Int32)) (7 : Int32)) (7 : Int32)).toInt8.toInt32.toInt8.toInt32 := by simp only [f1_x7, if_neg h0, if_neg h1, if_neg h2, if_neg h3]; rfl
  have x8 : f1_x8 (3 : Int32) v s s s s s s s s s = s := by simp only [f1_x8, if_neg h0, if_neg h1, if_neg h2, if_neg h3]; rfl
  rw [x0, x1, x2, x3, x4, x5, x6, x7, x8]
  refine ⟨by simp only [f1, if_neg h0, if_neg h1, if_neg h2, if_neg h3]; try rfl, ?_, ?_, ?_, ?_, ?_, ?_, ?_, ?_, ?_⟩
  · exact (show fok0 (3 : Int32) (5 : Int32) v s (s) (s) (s) (((v &&& (127 : Int32)) ||| (128 : Int32)).toInt8.toInt32.toInt8.toInt32) ((((XT.ushr v (7 : Int32)) &&& (127 : Int32)) ||| (128 : Int32)).toInt8.toInt32.toInt8.toInt32) ((((XT.ushr (XT.ushr v (7 : Int32)) (7 : Int32)) &&& (127 : Int32)) ||| (128 : Int32)).toInt8.toInt32.toInt8.toInt32) ((((XT.ushr (XT.ushr (XT.ushr v (7 : Int32)) (7 : Int32)) (7 : Int32)) &&& (127 : Int32)) ||| (128 : Int32)).toInt8.toInt32.toInt8.toInt32) ((XT.ushr (XT.ushr (XT.ushr (XT.ushr v (7 : Int32)) (7 : Int32)) (7 : Int32)) (7 : Int32)).toInt8.toInt32.toInt8.toInt32) (s) = ((if s = s then (1 : Int32) else (0 : Int32)) &&& 1) from rfl).trans (by rw [if_pos rfl]; rfl)
  · exact (show fok1 (3 : Int32) (5 : Int32) v s (s) (s) (s) (((v &&& (127 : Int32)) ||| (128 : Int32)).toInt8.toInt32.toInt8.toInt32) ((((XT.ushr v (7 : Int32)) &&& (127 : Int32)) ||| (128 : Int32)).toInt8.toInt32.toInt8.toInt32) ((((XT.ushr (XT.ushr v (7 : Int32)) (7 : Int32)) &&& (127 : Int32)) ||| (128 : Int32)).toInt8.toInt32.toInt8.toInt32) ((((XT.ushr (XT.ushr (XT.ushr v (7 : Int32)) (7 : Int32)) (7 : Int32)) &&& (127 : Int32)) ||| (128 : Int32)).toInt8.toInt32.toInt8.toInt32) ((XT.ushr (XT.ushr (XT.ushr (XT.ushr v (7 : Int32)) (7 : Int32)) (7 : Int32)) (7 : Int32)).toInt8.toInt32.toInt8.toInt32) (s) = ((if s = s then (1 : Int32) else (0 : Int32)) &&& 1) from rfl).trans (by rw [if_pos rfl]; rfl)
  · exact (show fok2 (3 : Int32) (5 : Int32) v s (s) (s) (s) (((v &&& (127 : Int32)) ||| (128 : Int32)).toInt8.toInt32.toInt8.toInt32) ((((XT.ushr v (7 : Int32)) &&& (127 : Int32)) ||| (128 : Int32)).toInt8.toInt32.toInt8.toInt32) ((((XT.ushr (XT.ushr v (7 : Int32)) (7 : Int32)) &&& (127 : Int32)) ||| (128 : Int32)).toInt8.toInt32.toInt8.toInt32) ((((XT.ushr (XT.ushr (XT.ushr v (7 : Int32)) (7 : Int32)) (7 : Int32)) &&& (127 : Int32)) ||| (128 : Int32)).toInt8.toInt32.toInt8.toInt32) ((XT.ushr (XT.ushr (XT.ushr (XT.ushr v (7 : Int32)) (7 : Int32)) (7 : Int32)) (7 : Int32)).toInt8.toInt32.toInt8.toInt32) (s) = ((if s = s then (1 : Int32) else (0 : Int32)) &&& 1) from rfl).trans (by rw [if_pos rfl]; rfl)
  · exact (show fok3 (3 : Int32) (5 : Int32) v s (s) (s) (s) (((v &&& (127 : Int32)) ||| (128 : Int32)).toInt8.toInt32.toInt8.toInt32) ((((XT.ushr v (7 : Int32)) &&& (127 : Int32)) ||| (128 : Int32)).toInt8.toInt32.toInt8.toInt32) ((((XT.ushr (XT.ushr v (7 : Int32)) (7 : Int32)) &&& (127 : Int32)) ||| (128 : Int32)).toInt8.toInt32.toInt8.toInt32) ((((XT.ushr (XT.ushr (XT.ushr v (7 : Int32)) (7 : Int32)) (7 : Int32)) &&& (127 : Int32)) ||| (128 : Int32)).toInt8.toInt32.toInt8.toInt32) ((XT.ushr (XT.ushr (XT.ushr (XT.ushr v (7 : Int32)) (7 : Int32)) (7 : Int32)) (7 : Int32)).toInt8.toInt32.toInt8.toInt32) (s) = ((if ((v &&& (127 : Int32)) ||| (128 : Int32)).toInt8.toInt32.toInt8.toInt32 = (((XT.ushr v (0 : Int32)) &&& (127 : Int32)) ||| (128 : Int32)).toInt8.toInt32 then (1 : Int32) else (0 : Int32)) &&& 1) from rfl).trans (by rw [if_pos (own_e5_0 v)]; rfl)
  · exact (show fok4 (3 : Int32) (5 : Int32) v s (s) (s) (s) (((v &&& (127 : Int32)) ||| (128 : Int32)).toInt8.toInt32.toInt8.toInt32) ((((XT.ushr v (7 : Int32)) &&& (127 : Int32)) ||| (128 : Int32)).toInt8.toInt32.toInt8.toInt32) ((((XT.ushr (XT.ushr v (7 : Int32)) (7 : Int32)) &&& (127 : Int32)) ||| (128 : Int32)).toInt8.toInt32.toInt8.toInt32) ((((XT.ushr (XT.ushr (XT.ushr v (7 : Int32)) (7 : Int32)) (7 : Int32)) &&& (127 : Int32)) ||| (128 : Int32)).toInt8.toInt32.toInt8.toInt32) ((XT.ushr (XT.ushr (XT.ushr (XT.ushr v (7 : Int32)) (7 : Int32)) (7 : Int32)) (7 : Int32)).toInt8.toInt32.toInt8.toInt32) (s) = ((if (((XT.ushr v (7 : Int32)) &&& (127 : Int32)) ||| (128 : Int32)).toInt8.toInt32.toInt8.toInt32 = (((XT.ushr v (7 : Int32)) &&& (127 : Int32)) ||| (128 : Int32)).toInt8.toInt32 then (1 : Int32) else (0 : Int32)) &&& 1) from rfl).trans (by rw [if_pos (own_e5_1 v)]; rfl)
  · exact (show fok5 (3 : Int32) (5 : Int32) v s (s) (s) (s) (((v &&& (127 : Int32)) ||| (128 : Int32)).toInt8.toInt32.toInt8.toInt32) ((((XT.ushr v (7 : Int32)) &&& (127 : Int32)) ||| (128 : Int32)).toInt8.toInt32.toInt8.toInt32) ((((XT.ushr (XT.ushr v (7 : Int32)) (7 : Int32)) &&& (127 : Int32)) ||| (128 : Int32)).toInt8.toInt32.toInt8.toInt32) ((((XT.ushr (XT.ushr (XT.ushr v (7 : Int32)) (7 : Int32)) (7 : Int32)) &&& (127 : Int32)) ||| (128 : Int32)).toInt8.toInt32.toInt8.toInt32) ((XT.ushr (XT.ushr (XT.ushr (XT.ushr v (7 : Int32)) (7 : Int32)) (7 : Int32)) (7 : Int32)).toInt8.toInt32.toInt8.toInt32) (s) = ((if (((XT.ushr (XT.ushr v (7 : Int32)) (7 : Int32)) &&& (127 : Int32)) ||| (128 : Int32)).toInt8.toInt32.toInt8.toInt32 = (((XT.ushr v (14 : Int32)) &&& (127 : Int32)) ||| (128 : Int32)).toInt8.toInt32 then (1 : Int32) else (0 : Int32)) &&& 1) from rfl).trans (by rw [if_pos (own_e5_2 v)]; rfl)
  · exact (show fok6 (3 : Int32) (5 : Int32) v s (s) (s) (s) (((v &&& (127 : Int32)) ||| (128 : Int32)).toInt8.toInt32.toInt8.toInt32) ((((XT.ushr v (7 : Int32)) &&& (127 : Int32)) ||| (128 : Int32)).toInt8.toInt32.toInt8.toInt32) ((((XT.ushr (XT.ushr v (7 : Int32)) (7 : Int32)) &&& (127 : Int32)) ||| (128 : Int32)).toInt8.toInt32.toInt8.toInt32) ((((XT.ushr (XT.ushr (XT.ushr v (7 : Int32)) (7 : Int32)) (7 : Int32)) &&& (127 : Int32)) ||| (128 : Int32)).toInt8.toInt32.toInt8.toInt32) ((XT.ushr (XT.ushr (XT.ushr (XT.ushr v (7 : Int32)) (7 : Int32)) (7 : Int32)) (7 : Int32)).toInt8.toInt32.toInt8.toInt32) (s) = ((if (((XT.ushr (XT.ushr (XT.ushr v (7 : Int32)) (7 : Int32)) (7 : Int32)) &&& (127 : Int32)) ||| (128 : Int32)).toInt8.toInt32.toInt8.toInt32 = (((XT.ushr v (21 : Int32)) &&& (127 : Int32)) ||| (128 : Int32)).toInt8.toInt32 then (1 : Int32) else (0 : Int32)) &&& 1) from rfl).trans (by rw [if_pos (own_e5_3 v)]; rfl)
  · exact (show fok7 (3 : Int32) (5 : Int32) v s (s) (s) (s) (((v &&& (127 : Int32)) ||| (128 : Int32)).toInt8.toInt32.toInt8.toInt32) ((((XT.ushr v (7 : Int32)) &&& (127 : Int32)) ||| (128 : Int32)).toInt8.toInt32.toInt8.toInt32) ((((XT.ushr (XT.ushr v (7 : Int32)) (7 : Int32)) &&& (127 : Int32)) ||| (128 : Int32)).toInt8.toInt32.toInt8.toInt32) ((((XT.ushr (XT.ushr (XT.ushr v (7 : Int32)) (7 : Int32)) (7 : Int32)) &&& (127 : Int32)) ||| (128 : Int32)).toInt8.toInt32.toInt8.toInt32) ((XT.ushr (XT.ushr (XT.ushr (XT.ushr v (7 : Int32)) (7 : Int32)) (7 : Int32)) (7 : Int32)).toInt8.toInt32.toInt8.toInt32) (s) = ((if (XT.ushr (XT.ushr (XT.ushr (XT.ushr v (7 : Int32)) (7 : Int32)) (7 : Int32)) (7 : Int32)).toInt8.toInt32.toInt8.toInt32 = ((XT.ushr v (28 : Int32)) &&& (127 : Int32)).toInt8.toInt32 then (1 : Int32) else (0 : Int32)) &&& 1) from rfl).trans (by rw [if_pos (own_e5_4 v)]; rfl)
  · exact (show fok8 (3 : Int32) (5 : Int32) v s (s) (s) (s) (((v &&& (127 : Int32)) ||| (128 : Int32)).toInt8.toInt32.toInt8.toInt32) ((((XT.ushr v (7 : Int32)) &&& (127 : Int32)) ||| (128 : Int32)).toInt8.toInt32.toInt8.toInt32) ((((XT.ushr (XT.ushr v (7 : Int32)) (7 : Int32)) &&& (127 : Int32)) ||| (128 : Int32)).toInt8.toInt32.toInt8.toInt32) ((((XT.ushr (XT.ushr (XT.ushr v (7 : Int32)) (7 : Int32)) (7 : Int32)) &&& (127 : Int32)) ||| (128 : Int32)).toInt8.toInt32.toInt8.toInt32) ((XT.ushr (XT.ushr (XT.ushr (XT.ushr v (7 : Int32)) (7 : Int32)) (7 : Int32)) (7 : Int32)).toInt8.toInt32.toInt8.toInt32) (s) = ((if s = s then (1 : Int32) else (0 : Int32)) &&& 1) from rfl).trans (by rw [if_pos rfl]; rfl)
theorem own_core (p1 at4 n s : Int32) (h : f1 at4 p1 s s s s s s s s s = at4 + n ∧ fok0 at4 n p1 s (f1_x0 at4 p1 s s s s s s s s s) (f1_x1 at4 p1 s s s s s s s s s) (f1_x2 at4 p1 s s s s s s s s s) (f1_x3 at4 p1 s s s s s s s s s) (f1_x4 at4 p1 s s s s s s s s s) (f1_x5 at4 p1 s s s s s s s s s) (f1_x6 at4 p1 s s s s s s s s s) (f1_x7 at4 p1 s s s s s s s s s) (f1_x8 at4 p1 s s s s s s s s s) = 1 ∧ fok1 at4 n p1 s (f1_x0 at4 p1 s s s s s s s s s) (f1_x1 at4 p1 s s s s s s s s s) (f1_x2 at4 p1 s s s s s s s s s) (f1_x3 at4 p1 s s s s s s s s s) (f1_x4 at4 p1 s s s s s s s s s) (f1_x5 at4 p1 s s s s s s s s s) (f1_x6 at4 p1 s s s s s s s s s) (f1_x7 at4 p1 s s s s s s s s s) (f1_x8 at4 p1 s s s s s s s s s) = 1 ∧ fok2 at4 n p1 s (f1_x0 at4 p1 s s s s s s s s s) (f1_x1 at4 p1 s s s s s s s s s) (f1_x2 at4 p1 s s s s s s s s s) (f1_x3 at4 p1 s s s s s s s s s) (f1_x4 at4 p1 s s s s s s s s s) (f1_x5 at4 p1 s s s s s s s s s) (f1_x6 at4 p1 s s s s s s s s s) (f1_x7 at4 p1 s s s s s s s s s) (f1_x8 at4 p1 s s s s s s s s s) = 1 ∧ fok3 at4 n p1 s (f1_x0 at4 p1 s s s s s s s s s) (f1_x1 at4 p1 s s s s s s s s s) (f1_x2 at4 p1 s s s s s s s s s) (f1_x3 at4 p1 s s s s s s s s s) (f1_x4 at4 p1 s s s s s s s s s) (f1_x5 at4 p1 s s s s s s s s s) (f1_x6 at4 p1 s s s s s s s s s) (f1_x7 at4 p1 s s s s s s s s s) (f1_x8 at4 p1 s s s s s s s s s) = 1 ∧ fok4 at4 n p1 s (f1_x0 at4 p1 s s s s s s s s s) (f1_x1 at4 p1 s s s s s s s s s) (f1_x2 at4 p1 s s s s s s s s s) (f1_x3 at4 p1 s s s s s s s s s) (f1_x4 at4 p1 s s s s s s s s s) (f1_x5 at4 p1 s s s s s s s s s) (f1_x6 at4 p1 s s s s s s s s s) (f1_x7 at4 p1 s s s s s s s s s) (f1_x8 at4 p1 s s s s s s s s s) = 1 ∧ fok5 at4 n p1 s (f1_x0 at4 p1 s s s s s s s s s) (f1_x1 at4 p1 s s s s s s s s s) (f1_x2 at4 p1 s s s s s s s s s) (f1_x3 at4 p1 s s s s s s s s s) (f1_x4 at4 p1 s s s s s s s s s) (f1_x5 at4 p1 s s s s s s s s s) (f1_x6 at4 p1 s s s s s s s s s) (f1_x7 at4 p1 s s s s s s s s s) (f1_x8 at4 p1 s s s s s s s s s) = 1 ∧ fok6 at4 n p1 s (f1_x0 at4 p1 s s s s s s s s s) (f1_x1 at4 p1 s s s s s s s s s) (f1_x2 at4 p1 s s s s s s s s s) (f1_x3 at4 p1 s s s s s s s s s) (f1_x4 at4 p1 s s s s s s s s s) (f1_x5 at4 p1 s s s s s s s s s) (f1_x6 at4 p1 s s s s s s s s s) (f1_x7 at4 p1 s s s s s s s s s) (f1_x8 at4 p1 s s s s s s s s s) = 1 ∧ fok7 at4 n p1 s (f1_x0 at4 p1 s s s s s s s s s) (f1_x1 at4 p1 s s s s s s s s s) (f1_x2 at4 p1 s s s s s s s s s) (f1_x3 at4 p1 s s s s s s s s s) (f1_x4 at4 p1 s s s s s s s s s) (f1_x5 at4 p1 s s s s s s s s s) (f1_x6 at4 p1 s s s s s s s s s) (f1_x7 at4 p1 s s s s s s s s s) (f1_x8 at4 p1 s s s s s s s s s) = 1 ∧ fok8 at4 n p1 s (f1_x0 at4 p1 s s s s s s s s s) (f1_x1 at4 p1 s s s s s s s s s) (f1_x2 at4 p1 s s s s s s s s s) (f1_x3 at4 p1 s s s s s s s s s) (f1_x4 at4 p1 s s s s s s s s s) (f1_x5 at4 p1 s s s s s s s s s) (f1_x6 at4 p1 s s s s s s s s s) (f1_x7 at4 p1 s s s s s s s s s) (f1_x8 at4 p1 s s s s s s s s s) = 1) (p2 p3 : Int32) (ha : p2 &&& (3 : Int32) = at4) (hs : p3.toInt8.toInt32 = s) (hn : f2 p1 = n) : f0 p1 p2 p3 = 1 := by
  obtain ⟨e, k0, k1, k2, k3, k4, k5, k6, k7, k8⟩ := h
  have hss : s.toInt8.toInt32 = s := by rw [← hs, own_ii]
  simp only [f0, f0_22, f0_21, f0_20, f0_19, f0_18, f0_17, f0_16, f0_15, f0_14, f0_13, f0_12, f0_11, f0_10, f0_9, f0_8, f0_7, f0_6, f0_5, f0_4, f0_3, f0_2, f0_1, f0_0, ha, hs, hss, hn, e, k0, k1, k2, k3, k4, k5, k6, k7, k8]
  decide
theorem own_law (p1 p2 p3 : Int32) : f0 p1 p2 p3 = 1 := by
  have q0 := own_hi p1
  have q1 := own_hi (XT.ushr p1 (7 : Int32))
  have q2 := own_hi (XT.ushr (XT.ushr p1 (7 : Int32)) (7 : Int32))
  have q3 := own_hi (XT.ushr (XT.ushr (XT.ushr p1 (7 : Int32)) (7 : Int32)) (7 : Int32))
  rw [own_t2 p1] at q1
  rw [own_t3 p1] at q2
  rw [own_t4 p1] at q3
  by_cases h0 : (p1 &&& (-128 : Int32)) = 0
  · have hn : f2 p1 = 1 := by rw [f2, if_pos (q0.mp h0)]
    rcases own_and3 p2 with ha | ha | ha | ha
    · exact own_core p1 0 1 _ (own_c1_0 p1 _ h0) p2 p3 ha rfl hn
    · exact own_core p1 1 1 _ (own_c1_1 p1 _ h0) p2 p3 ha rfl hn
    · exact own_core p1 2 1 _ (own_c1_2 p1 _ h0) p2 p3 ha rfl hn
    · exact own_core p1 3 1 _ (own_c1_3 p1 _ h0) p2 p3 ha rfl hn
  by_cases h1 : ((XT.ushr p1 (7 : Int32)) &&& (-128 : Int32)) = 0
  · have hn : f2 p1 = 2 := by rw [f2, if_neg (fun z => h0 (q0.mpr z)), if_pos (q1.mp h1)]
    rcases own_and3 p2 with ha | ha | ha | ha
    · exact own_core p1 0 2 _ (own_c2_0 p1 _ h0 h1) p2 p3 ha rfl hn
    · exact own_core p1 1 2 _ (own_c2_1 p1 _ h0 h1) p2 p3 ha rfl hn
    · exact own_core p1 2 2 _ (own_c2_2 p1 _ h0 h1) p2 p3 ha rfl hn
    · exact own_core p1 3 2 _ (own_c2_3 p1 _ h0 h1) p2 p3 ha rfl hn
  by_cases h2 : ((XT.ushr (XT.ushr p1 (7 : Int32)) (7 : Int32)) &&& (-128 : Int32)) = 0
  · have hn : f2 p1 = 3 := by rw [f2, if_neg (fun z => h0 (q0.mpr z)), if_neg (fun z => h1 (q1.mpr z)), if_pos (q2.mp h2)]
    rcases own_and3 p2 with ha | ha | ha | ha
    · exact own_core p1 0 3 _ (own_c3_0 p1 _ h0 h1 h2) p2 p3 ha rfl hn
    · exact own_core p1 1 3 _ (own_c3_1 p1 _ h0 h1 h2) p2 p3 ha rfl hn
    · exact own_core p1 2 3 _ (own_c3_2 p1 _ h0 h1 h2) p2 p3 ha rfl hn
    · exact own_core p1 3 3 _ (own_c3_3 p1 _ h0 h1 h2) p2 p3 ha rfl hn
  by_cases h3 : ((XT.ushr (XT.ushr (XT.ushr p1 (7 : Int32)) (7 : Int32)) (7 : Int32)) &&& (-128 : Int32)) = 0
  · have hn : f2 p1 = 4 := by rw [f2, if_neg (fun z => h0 (q0.mpr z)), if_neg (fun z => h1 (q1.mpr z)), if_neg (fun z => h2 (q2.mpr z)), if_pos (q3.mp h3)]
    rcases own_and3 p2 with ha | ha | ha | ha
    · exact own_core p1 0 4 _ (own_c4_0 p1 _ h0 h1 h2 h3) p2 p3 ha rfl hn
    · exact own_core p1 1 4 _ (own_c4_1 p1 _ h0 h1 h2 h3) p2 p3 ha rfl hn
    · exact own_core p1 2 4 _ (own_c4_2 p1 _ h0 h1 h2 h3) p2 p3 ha rfl hn
    · exact own_core p1 3 4 _ (own_c4_3 p1 _ h0 h1 h2 h3) p2 p3 ha rfl hn
  have hn : f2 p1 = 5 := by rw [f2, if_neg (fun z => h0 (q0.mpr z)), if_neg (fun z => h1 (q1.mpr z)), if_neg (fun z => h2 (q2.mpr z)), if_neg (fun z => h3 (q3.mpr z))]
  rcases own_and3 p2 with ha | ha | ha | ha
  · exact own_core p1 0 5 _ (own_c5_0 p1 _ h0 h1 h2 h3) p2 p3 ha rfl hn
  · exact own_core p1 1 5 _ (own_c5_1 p1 _ h0 h1 h2 h3) p2 p3 ha rfl hn
  · exact own_core p1 2 5 _ (own_c5_2 p1 _ h0 h1 h2 h3) p2 p3 ha rfl hn
  · exact own_core p1 3 5 _ (own_c5_3 p1 _ h0 h1 h2 h3) p2 p3 ha rfl hn

abbrev own_G (tb : Tables) (e : Env) (below : List Frame) (Q : Outcome → State → Prop) (A : State) : Prop := ∃ s₂ o, Steps tb e below A s₂ ∧ s₂.status = .running ∧ Ended s₂ below o ∧ Q o s₂
theorem own_step {tb : Tables} {e : Env} {below : List Frame} {Q : Outcome → State → Prop} {A B : State} (h : ∀ t, Steps tb e below B t → Steps tb e below A t) (g : own_G tb e below Q B) : own_G tb e below Q A := by
  obtain ⟨s2, o, h1, h2⟩ := g
  exact ⟨s2, o, h _ h1, h2⟩
theorem own_aT {x y : Addr} (h : x = y) : XT.acmp .eq (.ref x) (.ref y) = true ∧ XT.acmp .ne (.ref x) (.ref y) = false := by subst h; exact ⟨by simp [XT.acmp], by simp [XT.acmp]⟩
theorem own_aF {x y : Addr} (h : ¬ x = y) : XT.acmp .eq (.ref x) (.ref y) = false ∧ XT.acmp .ne (.ref x) (.ref y) = true := by simp [XT.acmp, h]
theorem own_cl (x y : Int64) : XT.cmpL x y < 0 ↔ x < y := lw_lt x y
theorem own_cg (x y : Int64) : 0 < XT.cmpL x y ↔ y < x := lw_gt x y
theorem own_ce (x y : Int64) : XT.cmpL x y = 0 ↔ x = y := lw_eq x y
theorem pd_0 : parseMethodDescriptor "([BII)I" = some ⟨[(.array .byte), .int, .int], some .int⟩ := by decide +kernel
theorem pd_1 : parseMethodDescriptor "(I)I" = some ⟨[.int], some .int⟩ := by decide +kernel
theorem pd_2 : parseMethodDescriptor "([BIIIIB)Z" = some ⟨[(.array .byte), .int, .int, .int, .int, .byte], some .boolean⟩ := by decide +kernel
theorem d1_0 : decode prog_14_method_2_code 0 = .ok (.iload_n 2, 1) := by decide +kernel
theorem d1_1 : decode prog_14_method_2_code 1 = .ok (.bipush (-128), 2) := by decide +kernel
theorem d1_3 : decode prog_14_method_2_code 3 = .ok (.iand, 1) := by decide +kernel
theorem d1_4 : decode prog_14_method_2_code 4 = .ok (.ifCond .eq 26, 3) := by decide +kernel
theorem d1_7 : decode prog_14_method_2_code 7 = .ok (.aload_n 0, 1) := by decide +kernel
theorem d1_8 : decode prog_14_method_2_code 8 = .ok (.iload_n 1, 1) := by decide +kernel
theorem d1_9 : decode prog_14_method_2_code 9 = .ok (.iinc 1 1, 3) := by decide +kernel
theorem d1_12 : decode prog_14_method_2_code 12 = .ok (.iload_n 2, 1) := by decide +kernel
theorem d1_13 : decode prog_14_method_2_code 13 = .ok (.bipush 127, 2) := by decide +kernel
theorem d1_15 : decode prog_14_method_2_code 15 = .ok (.iand, 1) := by decide +kernel
theorem d1_16 : decode prog_14_method_2_code 16 = .ok (.sipush 128, 3) := by decide +kernel
theorem d1_19 : decode prog_14_method_2_code 19 = .ok (.ior, 1) := by decide +kernel
theorem d1_20 : decode prog_14_method_2_code 20 = .ok (.i2b, 1) := by decide +kernel
theorem d1_21 : decode prog_14_method_2_code 21 = .ok (.bastore, 1) := by decide +kernel
theorem d1_22 : decode prog_14_method_2_code 22 = .ok (.iload_n 2, 1) := by decide +kernel
theorem d1_23 : decode prog_14_method_2_code 23 = .ok (.bipush 7, 2) := by decide +kernel
theorem d1_25 : decode prog_14_method_2_code 25 = .ok (.iushr, 1) := by decide +kernel
theorem d1_26 : decode prog_14_method_2_code 26 = .ok (.istore_n 2, 1) := by decide +kernel
theorem d1_27 : decode prog_14_method_2_code 27 = .ok (.goto (-27), 3) := by decide +kernel
theorem d1_30 : decode prog_14_method_2_code 30 = .ok (.aload_n 0, 1) := by decide +kernel
theorem d1_31 : decode prog_14_method_2_code 31 = .ok (.iload_n 1, 1) := by decide +kernel
theorem d1_32 : decode prog_14_method_2_code 32 = .ok (.iinc 1 1, 3) := by decide +kernel
theorem d1_35 : decode prog_14_method_2_code 35 = .ok (.iload_n 2, 1) := by decide +kernel
theorem d1_36 : decode prog_14_method_2_code 36 = .ok (.i2b, 1) := by decide +kernel
theorem d1_37 : decode prog_14_method_2_code 37 = .ok (.bastore, 1) := by decide +kernel
theorem d1_38 : decode prog_14_method_2_code 38 = .ok (.iload_n 1, 1) := by decide +kernel
theorem d1_39 : decode prog_14_method_2_code 39 = .ok (.ireturn, 1) := by decide +kernel
theorem pn_1 : plainName "com/example/stratum/stratum/index/Postings" = true := by first | (simp [plainName, overriddenIn]; done) | decide +kernel
theorem ef_1 (m : MethodId) (a1 : Addr) (p2 : Int32) (p3 : Int32) : entryFrame m #[(.ref a1), (.int p2), (.int p3)] 3 = mkF m 0 #[.val (.ref a1), .val (.int p2), .val (.int p3)] [] := by first | (simp [entryFrame, mkF, argsToLocals, Value.category]; done) | rfl
def Q1 (Z : State) (a1 : Addr) (p2 : Int32) (p3 : Int32) (k1 : ClassId) (c0 : Int32) (c1 : Int32) (c2 : Int32) (c3 : Int32) (c4 : Int32) (c5 : Int32) (c6 : Int32) (c7 : Int32) (c8 : Int32) (h0 : Heap) (n0 : Nat) (v : Option Value) (h : Heap) (L : List Loc) : Prop := v = some (.int (f1 p2 p3 c0 c1 c2 c3 c4 c5 c6 c7 c8)) ∧ Fr n0 L ∧ Keep h0 h [a1] ∧ (Arv Z h a1 k1 .byte (9 : Int32) [(.int (f1_x0 p2 p3 c0 c1 c2 c3 c4 c5 c6 c7 c8)), (.int (f1_x1 p2 p3 c0 c1 c2 c3 c4 c5 c6 c7 c8)), (.int (f1_x2 p2 p3 c0 c1 c2 c3 c4 c5 c6 c7 c8)), (.int (f1_x3 p2 p3 c0 c1 c2 c3 c4 c5 c6 c7 c8)), (.int (f1_x4 p2 p3 c0 c1 c2 c3 c4 c5 c6 c7 c8)), (.int (f1_x5 p2 p3 c0 c1 c2 c3 c4 c5 c6 c7 c8)), (.int (f1_x6 p2 p3 c0 c1 c2 c3 c4 c5 c6 c7 c8)), (.int (f1_x7 p2 p3 c0 c1 c2 c3 c4 c5 c6 c7 c8)), (.int (f1_x8 p2 p3 c0 c1 c2 c3 c4 c5 c6 c7 c8))] (.int (0 : Int32)))
set_option maxRecDepth 65536 in
set_option maxHeartbeats 40000000 in
theorem rm1 (l : Launch) (Z : State) (a0 : Array Value) (hw : ∀ d ∈ tables_1, d.before a0 Z = true) (ws : List Jvm.Cond) (a1 : Addr) (p2 : Int32) (p3 : Int32) (k1 : ClassId) (c0 : Int32) (c1 : Int32) (c2 : Int32) (c3 : Int32) (c4 : Int32) (c5 : Int32) (c6 : Int32) (c7 : Int32) (c8 : Int32) (h0 : Heap) (n0 : Nat) (Z0 : n0 ≤ h0.size) (A_a1 : Arv Z h0 a1 k1 .byte (9 : Int32) [(.int c0), (.int c1), (.int c2), (.int c3), (.int c4), (.int c5), (.int c6), (.int c7), (.int c8)] (.int (0 : Int32))) (G_a1 : n0 ≤ a1) (hat : own_in4 p2) :
    MetFree l (⟨"com/example/stratum/stratum/index/Postings", "putVarInt", "([BII)I"⟩ : MethodName) (head1 (Jvm.Cond.code (⟨"com/example/stratum/stratum/index/Postings", "putVarInt", "([BII)I"⟩ : MethodName) prog_14_method_2_code 3 (some .int) :: ws) ({ frames := 0, cells := 0, slots := 0, locals := 0 } : Room)) (fun a U => a = #[(.ref a1), (.int p2), (.int p3)] ∧ Z.Warmed39 U.vm ∧ U.heap = h0) (fun _ _ _ _ _ => True) (fun _ U o U' => ∃ v L, o = .returned v ∧ Q1 Z a1 p2 p3 k1 c0 c1 c2 c3 c4 c5 c6 c7 c8 h0 n0 v U'.heap L ∧ FrameEnd U o U' L ({ frames := 0, cells := 0, slots := 0, locals := 0 } : Room).cells ({ frames := 0, cells := 0, slots := 0, locals := 0 } : Room).slots) := by
  refine MetFree.of_bodySF (plainFor_of_name pn_1) hisR ?_
  intro p e s m args below meth c s₁ Bd hml0 hP hK
  obtain ⟨rfl, hZ, hh⟩ := hP
  have hx := Bd.exec
  have hby := Bd.bytes
  have hml : c.maxLocals = 3 := hml0
  have hown : s.vm.findClass "com/example/stratum/stratum/index/Postings" = some m.cls := findClass_of_methodNamed Bd.named
  have hnm := (name_of_methodNamed Bd.named Bd.method).1
  have X0 : Stand p l e ({ frames := 0, cells := 0, slots := 0, locals := 0 } : Room) s m #[(.ref a1), (.int p2), (.int p3)] below meth c s₁ [] 0 0 := Stand.of_body Bd
  have e0 : s₁.heap = h0 := by rw [← hh, Bd.state]; rfl
  have N0 := Fr.nil n0
  have pre0 : ∀ t, Steps p.tables e below (s₁.setTop (mkF m 0 #[.val (.ref a1), .val (.int p2), .val (.int p3)] [])) t → Steps p.tables e below (s₁.setTop (entryFrame m #[(.ref a1), (.int p2), (.int p3)] 3)) t := fun t k => castTop (ef_1 m a1 p2 p3) k
  refine own_step (Q := fun o U' => ∃ v L, o = .returned v ∧ Q1 Z a1 p2 p3 k1 c0 c1 c2 c3 c4 c5 c6 c7 c8 h0 n0 v U'.heap L ∧ FrameEnd s o U' L ({ frames := 0, cells := 0, slots := 0, locals := 0 } : Room).cells ({ frames := 0, cells := 0, slots := 0, locals := 0 } : Room).slots) pre0 ?_
  have K0 : Keep h0 h0 [a1] := Keep.refl h0 [a1]
  refine own_step (B := s₁.setTop (mkF m 4 #[.val (.ref a1), .val (.int p2), .val (.int p3)] [(.int (p3 &&& (-128 : Int32)))])) (fun t k => ?_) ?_
  · show Steps p.tables e below (s₁.setTop (mkF m 0 #[.val (.ref a1), .val (.int p2), .val (.int p3)] [])) _
    refine XS.iloadN X0.here hx rfl (hb hby d1_0) rfl ?_
    show Steps p.tables e below (s₁.setTop (mkF m 1 #[.val (.ref a1), .val (.int p2), .val (.int p3)] [(.int p3)])) _
    refine XS.bipush X0.here hx rfl (hb hby d1_1) ?_
    show Steps p.tables e below (s₁.setTop (mkF m 3 #[.val (.ref a1), .val (.int p2), .val (.int p3)] [(.int (-128 : Int32)), (.int p3)])) _
    refine XS.iand X0.here hx rfl (hb hby d1_3) rfl ?_
    exact k
  by_cases h1 : (p3 &&& (-128 : Int32)) = (0 : Int32)
  · obtain ⟨cl2, Ar2, q2, S2, M2, H2, G2⟩ := id A_a1
    obtain ⟨T2, h2, X2, e2, W2, st2⟩ := stB X0 hx hZ e0 Ar2 (j := p2) (inb_of S2 (own_b9 (own_j0 hat))) (g := (mkF m 37 #[.val (.ref a1), .val (.int (p2 + (1 : Int32))), .val (.int p3)] [(.int p3.toInt8.toInt32), (.int p2), (.ref a1)])) rfl rfl (hb hby d1_37)
    have K2 := K0.wr W2 (Or.inl (List.mem_of_getElem? (i := 0) rfl))
    have Z2 : n0 ≤ h2.size := Nat.le_trans Z0 (Keep.of_wr W2).1
    have N2 := Fr.snoc X2 N0 G_a1
    have V2w := Arv.set Ar2 q2 S2 M2 H2 G2 (fits_nar_byte _) W2 _ rfl (own_n9 (own_j0 hat))
    rw [own_set9 (own_j0 hat)] at V2w
    have V2 : Arv Z h2 a1 k1 .byte (9 : Int32) [(.int (if p2 = (0 : Int32) then p3.toInt8.toInt32.toInt8.toInt32 else c0)), (.int (if p2 = (1 : Int32) then p3.toInt8.toInt32.toInt8.toInt32 else c1)), (.int (if p2 = (2 : Int32) then p3.toInt8.toInt32.toInt8.toInt32 else c2)), (.int (if p2 = (3 : Int32) then p3.toInt8.toInt32.toInt8.toInt32 else c3)), (.int (if p2 = (4 : Int32) then p3.toInt8.toInt32.toInt8.toInt32 else c4)), (.int (if p2 = (5 : Int32) then p3.toInt8.toInt32.toInt8.toInt32 else c5)), (.int (if p2 = (6 : Int32) then p3.toInt8.toInt32.toInt8.toInt32 else c6)), (.int (if p2 = (7 : Int32) then p3.toInt8.toInt32.toInt8.toInt32 else c7)), (.int (if p2 = (8 : Int32) then p3.toInt8.toInt32.toInt8.toInt32 else c8))] (.int (0 : Int32)) := V2w
    obtain ⟨fs, hr, hrun, hended, hW, hsame⟩ := X2.leave (v := some (.int (p2 + (1 : Int32)))) (fun h => by rw [Bd.returns] at h; cases h)
    refine ⟨_, _, ?_, hrun, hended, _, _, rfl, ?_, ⟨_, rfl⟩, hW, hsame.mono (by decide) (by decide)⟩
    · show Steps p.tables e below (s₁.setTop (mkF m 4 #[.val (.ref a1), .val (.int p2), .val (.int p3)] [(.int (p3 &&& (-128 : Int32)))])) _
      refine XS.ifYes X0.here hx rfl (pc0 := 4) (pc' := 30) rfl (hb hby d1_4) rfl ((if0 _ _).trans (teq h1).1) (by decide) (by decide) ?_
      show Steps p.tables e below (s₁.setTop (mkF m 30 #[.val (.ref a1), .val (.int p2), .val (.int p3)] [])) _
      refine XS.aloadN X0.here hx rfl (hb hby d1_30) rfl rfl ?_
      show Steps p.tables e below (s₁.setTop (mkF m 31 #[.val (.ref a1), .val (.int p2), .val (.int p3)] [(.ref a1)])) _
      refine XS.iloadN X0.here hx rfl (hb hby d1_31) rfl ?_
      show Steps p.tables e below (s₁.setTop (mkF m 32 #[.val (.ref a1), .val (.int p2), .val (.int p3)] [(.int p2), (.ref a1)])) _
      refine XS.iinc X0.here hx rfl (hb hby d1_32) rfl (l' := #[.val (.ref a1), .val (.int (p2 + (1 : Int32))), .val (.int p3)]) rfl ?_
      show Steps p.tables e below (s₁.setTop (mkF m 35 #[.val (.ref a1), .val (.int (p2 + (1 : Int32))), .val (.int p3)] [(.int p2), (.ref a1)])) _
      refine XS.iloadN X0.here hx rfl (hb hby d1_35) rfl ?_
      show Steps p.tables e below (s₁.setTop (mkF m 36 #[.val (.ref a1), .val (.int (p2 + (1 : Int32))), .val (.int p3)] [(.int p3), (.int p2), (.ref a1)])) _
      refine XT.i2b X0.here hx rfl (hb hby d1_36) rfl ?_
      show Steps p.tables e below (s₁.setTop (mkF m 37 #[.val (.ref a1), .val (.int (p2 + (1 : Int32))), .val (.int p3)] [(.int p3.toInt8.toInt32), (.int p2), (.ref a1)])) _
      refine st2 _ ?_
      show Steps p.tables e below (T2.setTop (mkF m 38 #[.val (.ref a1), .val (.int (p2 + (1 : Int32))), .val (.int p3)] [])) _
      refine XS.iloadN X2.here hx rfl (hb hby d1_38) rfl ?_
      show Steps p.tables e below (T2.setTop (mkF m 39 #[.val (.ref a1), .val (.int (p2 + (1 : Int32))), .val (.int p3)] [(.int (p2 + (1 : Int32)))])) _
      exact retI X2 hx Bd.returns (hb hby d1_39) hr
    · show Q1 Z a1 p2 p3 k1 c0 c1 c2 c3 c4 c5 c6 c7 c8 h0 n0 _ T2.heap _
      rw [e2]
      have hx1 : f1_x0 p2 p3 c0 c1 c2 c3 c4 c5 c6 c7 c8 = (if p2 = (0 : Int32) then p3.toInt8.toInt32.toInt8.toInt32 else c0) := by simp only [f1_x0, if_pos h1]
      have hx2 : f1_x1 p2 p3 c0 c1 c2 c3 c4 c5 c6 c7 c8 = (if p2 = (1 : Int32) then p3.toInt8.toInt32.toInt8.toInt32 else c1) := by simp only [f1_x1, if_pos h1]
      have hx3 : f1_x2 p2 p3 c0 c1 c2 c3 c4 c5 c6 c7 c8 = (if p2 = (2 : Int32) then p3.toInt8.toInt32.toInt8.toInt32 else c2) := by simp only [f1_x2, if_pos h1]
      have hx4 : f1_x3 p2 p3 c0 c1 c2 c3 c4 c5 c6 c7 c8 = (if p2 = (3 : Int32) then p3.toInt8.toInt32.toInt8.toInt32 else c3) := by simp only [f1_x3, if_pos h1]
      have hx5 : f1_x4 p2 p3 c0 c1 c2 c3 c4 c5 c6 c7 c8 = (if p2 = (4 : Int32) then p3.toInt8.toInt32.toInt8.toInt32 else c4) := by simp only [f1_x4, if_pos h1]
      have hx6 : f1_x5 p2 p3 c0 c1 c2 c3 c4 c5 c6 c7 c8 = (if p2 = (5 : Int32) then p3.toInt8.toInt32.toInt8.toInt32 else c5) := by simp only [f1_x5, if_pos h1]
      have hx7 : f1_x6 p2 p3 c0 c1 c2 c3 c4 c5 c6 c7 c8 = (if p2 = (6 : Int32) then p3.toInt8.toInt32.toInt8.toInt32 else c6) := by simp only [f1_x6, if_pos h1]
      have hx8 : f1_x7 p2 p3 c0 c1 c2 c3 c4 c5 c6 c7 c8 = (if p2 = (7 : Int32) then p3.toInt8.toInt32.toInt8.toInt32 else c7) := by simp only [f1_x7, if_pos h1]
      have hx9 : f1_x8 p2 p3 c0 c1 c2 c3 c4 c5 c6 c7 c8 = (if p2 = (8 : Int32) then p3.toInt8.toInt32.toInt8.toInt32 else c8) := by simp only [f1_x8, if_pos h1]
      have hf : f1 p2 p3 c0 c1 c2 c3 c4 c5 c6 c7 c8 = (p2 + (1 : Int32)) := by simp only [f1, if_pos h1]
      exact ⟨by rw [hf], N2, K2, (by rw [hx1, hx2, hx3, hx4, hx5, hx6, hx7, hx8, hx9]; exact V2)⟩
  · obtain ⟨cl3, Ar3, q3, S3, M3, H3, G3⟩ := id A_a1
    obtain ⟨T3, h3, X3, e3, W3, st3⟩ := stB X0 hx hZ e0 Ar3 (j := p2) (inb_of S3 (own_b9 (own_j0 hat))) (g := (mkF m 21 #[.val (.ref a1), .val (.int (p2 + (1 : Int32))), .val (.int p3)] [(.int ((p3 &&& (127 : Int32)) ||| (128 : Int32)).toInt8.toInt32), (.int p2), (.ref a1)])) rfl rfl (hb hby d1_21)
    have K3 := K0.wr W3 (Or.inl (List.mem_of_getElem? (i := 0) rfl))
    have Z3 : n0 ≤ h3.size := Nat.le_trans Z0 (Keep.of_wr W3).1
    have N3 := Fr.snoc X3 N0 G_a1
    have V3w := Arv.set Ar3 q3 S3 M3 H3 G3 (fits_nar_byte _) W3 _ rfl (own_n9 (own_j0 hat))
    rw [own_set9 (own_j0 hat)] at V3w
    have V3 : Arv Z h3 a1 k1 .byte (9 : Int32) [(.int (f1_0 p2 p3 c0 c1 c2 c3 c4 c5 c6 c7 c8)), (.int (f1_1 p2 p3 c0 c1 c2 c3 c4 c5 c6 c7 c8)), (.int (f1_2 p2 p3 c0 c1 c2 c3 c4 c5 c6 c7 c8)), (.int (f1_3 p2 p3 c0 c1 c2 c3 c4 c5 c6 c7 c8)), (.int (f1_4 p2 p3 c0 c1 c2 c3 c4 c5 c6 c7 c8)), (.int (f1_5 p2 p3 c0 c1 c2 c3 c4 c5 c6 c7 c8)), (.int (f1_6 p2 p3 c0 c1 c2 c3 c4 c5 c6 c7 c8)), (.int (f1_7 p2 p3 c0 c1 c2 c3 c4 c5 c6 c7 c8)), (.int (f1_8 p2 p3 c0 c1 c2 c3 c4 c5 c6 c7 c8))] (.int (0 : Int32)) := V3w
    refine own_step (B := T3.setTop (mkF m 4 #[.val (.ref a1), .val (.int (p2 + (1 : Int32))), .val (.int (XT.ushr p3 (7 : Int32)))] [(.int ((XT.ushr p3 (7 : Int32)) &&& (-128 : Int32)))])) (fun t k => ?_) ?_
    · show Steps p.tables e below (s₁.setTop (mkF m 4 #[.val (.ref a1), .val (.int p2), .val (.int p3)] [(.int (p3 &&& (-128 : Int32)))])) _
      refine XS.ifNo X0.here hx rfl (hb hby d1_4) rfl ((if0 _ _).trans (feq h1).1) ?_
      show Steps p.tables e below (s₁.setTop (mkF m 7 #[.val (.ref a1), .val (.int p2), .val (.int p3)] [])) _
      refine XS.aloadN X0.here hx rfl (hb hby d1_7) rfl rfl ?_
      show Steps p.tables e below (s₁.setTop (mkF m 8 #[.val (.ref a1), .val (.int p2), .val (.int p3)] [(.ref a1)])) _
      refine XS.iloadN X0.here hx rfl (hb hby d1_8) rfl ?_
      show Steps p.tables e below (s₁.setTop (mkF m 9 #[.val (.ref a1), .val (.int p2), .val (.int p3)] [(.int p2), (.ref a1)])) _
      refine XS.iinc X0.here hx rfl (hb hby d1_9) rfl (l' := #[.val (.ref a1), .val (.int (p2 + (1 : Int32))), .val (.int p3)]) rfl ?_
      show Steps p.tables e below (s₁.setTop (mkF m 12 #[.val (.ref a1), .val (.int (p2 + (1 : Int32))), .val (.int p3)] [(.int p2), (.ref a1)])) _
      refine XS.iloadN X0.here hx rfl (hb hby d1_12) rfl ?_
      show Steps p.tables e below (s₁.setTop (mkF m 13 #[.val (.ref a1), .val (.int (p2 + (1 : Int32))), .val (.int p3)] [(.int p3), (.int p2), (.ref a1)])) _
      refine XS.bipush X0.here hx rfl (hb hby d1_13) ?_
      show Steps p.tables e below (s₁.setTop (mkF m 15 #[.val (.ref a1), .val (.int (p2 + (1 : Int32))), .val (.int p3)] [(.int (127 : Int32)), (.int p3), (.int p2), (.ref a1)])) _
      refine XS.iand X0.here hx rfl (hb hby d1_15) rfl ?_
      show Steps p.tables e below (s₁.setTop (mkF m 16 #[.val (.ref a1), .val (.int (p2 + (1 : Int32))), .val (.int p3)] [(.int (p3 &&& (127 : Int32))), (.int p2), (.ref a1)])) _
      refine XS.sipush X0.here hx rfl (hb hby d1_16) ?_
      show Steps p.tables e below (s₁.setTop (mkF m 19 #[.val (.ref a1), .val (.int (p2 + (1 : Int32))), .val (.int p3)] [(.int (128 : Int32)), (.int (p3 &&& (127 : Int32))), (.int p2), (.ref a1)])) _
      refine XT.ior X0.here hx rfl (hb hby d1_19) rfl ?_
      show Steps p.tables e below (s₁.setTop (mkF m 20 #[.val (.ref a1), .val (.int (p2 + (1 : Int32))), .val (.int p3)] [(.int ((p3 &&& (127 : Int32)) ||| (128 : Int32))), (.int p2), (.ref a1)])) _
      refine XT.i2b X0.here hx rfl (hb hby d1_20) rfl ?_
      show Steps p.tables e below (s₁.setTop (mkF m 21 #[.val (.ref a1), .val (.int (p2 + (1 : Int32))), .val (.int p3)] [(.int ((p3 &&& (127 : Int32)) ||| (128 : Int32)).toInt8.toInt32), (.int p2), (.ref a1)])) _
      refine st3 _ ?_
      show Steps p.tables e below (T3.setTop (mkF m 22 #[.val (.ref a1), .val (.int (p2 + (1 : Int32))), .val (.int p3)] [])) _
      refine XS.iloadN X3.here hx rfl (hb hby d1_22) rfl ?_
      show Steps p.tables e below (T3.setTop (mkF m 23 #[.val (.ref a1), .val (.int (p2 + (1 : Int32))), .val (.int p3)] [(.int p3)])) _
      refine XS.bipush X3.here hx rfl (hb hby d1_23) ?_
      show Steps p.tables e below (T3.setTop (mkF m 25 #[.val (.ref a1), .val (.int (p2 + (1 : Int32))), .val (.int p3)] [(.int (7 : Int32)), (.int p3)])) _
      refine XT.iushr X3.here hx rfl (hb hby d1_25) rfl ?_
      show Steps p.tables e below (T3.setTop (mkF m 26 #[.val (.ref a1), .val (.int (p2 + (1 : Int32))), .val (.int p3)] [(.int (XT.ushr p3 (7 : Int32)))])) _
      refine XS.istoreN X3.here hx rfl (hb hby d1_26) rfl (l' := #[.val (.ref a1), .val (.int (p2 + (1 : Int32))), .val (.int (XT.ushr p3 (7 : Int32)))]) rfl ?_
      show Steps p.tables e below (T3.setTop (mkF m 27 #[.val (.ref a1), .val (.int (p2 + (1 : Int32))), .val (.int (XT.ushr p3 (7 : Int32)))] [])) _
      refine XS.goto X3.here hx rfl (pc0 := 27) (pc' := 0) rfl (hb hby d1_27) (by decide) (by decide) ?_
      show Steps p.tables e below (T3.setTop (mkF m 0 #[.val (.ref a1), .val (.int (p2 + (1 : Int32))), .val (.int (XT.ushr p3 (7 : Int32)))] [])) _
      refine XS.iloadN X3.here hx rfl (hb hby d1_0) rfl ?_
      show Steps p.tables e below (T3.setTop (mkF m 1 #[.val (.ref a1), .val (.int (p2 + (1 : Int32))), .val (.int (XT.ushr p3 (7 : Int32)))] [(.int (XT.ushr p3 (7 : Int32)))])) _
      refine XS.bipush X3.here hx rfl (hb hby d1_1) ?_
      show Steps p.tables e below (T3.setTop (mkF m 3 #[.val (.ref a1), .val (.int (p2 + (1 : Int32))), .val (.int (XT.ushr p3 (7 : Int32)))] [(.int (-128 : Int32)), (.int (XT.ushr p3 (7 : Int32)))])) _
      refine XS.iand X3.here hx rfl (hb hby d1_3) rfl ?_
      exact k
    by_cases h4 : ((XT.ushr p3 (7 : Int32)) &&& (-128 : Int32)) = (0 : Int32)
    · obtain ⟨cl5, Ar5, q5, S5, M5, H5, G5⟩ := id V3
      obtain ⟨T5, h5, X5, e5, W5, st5⟩ := stB X3 hx hZ e3 Ar5 (j := (p2 + (1 : Int32))) (inb_of S5 (own_b9 (own_j1 hat))) (g := (mkF m 37 #[.val (.ref a1), .val (.int ((p2 + (1 : Int32)) + (1 : Int32))), .val (.int (XT.ushr p3 (7 : Int32)))] [(.int (XT.ushr p3 (7 : Int32)).toInt8.toInt32), (.int (p2 + (1 : Int32))), (.ref a1)])) rfl rfl (hb hby d1_37)
      have K5 := K3.wr W5 (Or.inl (List.mem_of_getElem? (i := 0) rfl))
      have Z5 : n0 ≤ h5.size := Nat.le_trans Z3 (Keep.of_wr W5).1
      have N5 := Fr.snoc X5 N3 G_a1
      have V5w := Arv.set Ar5 q5 S5 M5 H5 G5 (fits_nar_byte _) W5 _ rfl (own_n9 (own_j1 hat))
      rw [own_set9 (own_j1 hat)] at V5w
      have V5 : Arv Z h5 a1 k1 .byte (9 : Int32) [(.int (f1_9 p2 p3 c0 c1 c2 c3 c4 c5 c6 c7 c8)), (.int (f1_10 p2 p3 c0 c1 c2 c3 c4 c5 c6 c7 c8)), (.int (f1_11 p2 p3 c0 c1 c2 c3 c4 c5 c6 c7 c8)), (.int (f1_12 p2 p3 c0 c1 c2 c3 c4 c5 c6 c7 c8)), (.int (f1_13 p2 p3 c0 c1 c2 c3 c4 c5 c6 c7 c8)), (.int (f1_14 p2 p3 c0 c1 c2 c3 c4 c5 c6 c7 c8)), (.int (f1_15 p2 p3 c0 c1 c2 c3 c4 c5 c6 c7 c8)), (.int (f1_16 p2 p3 c0 c1 c2 c3 c4 c5 c6 c7 c8)), (.int (f1_17 p2 p3 c0 c1 c2 c3 c4 c5 c6 c7 c8))] (.int (0 : Int32)) := V5w
      obtain ⟨fs, hr, hrun, hended, hW, hsame⟩ := X5.leave (v := some (.int ((p2 + (1 : Int32)) + (1 : Int32)))) (fun h => by rw [Bd.returns] at h; cases h)
      refine ⟨_, _, ?_, hrun, hended, _, _, rfl, ?_, ⟨_, rfl⟩, hW, hsame.mono (by decide) (by decide)⟩
      · show Steps p.tables e below (T3.setTop (mkF m 4 #[.val (.ref a1), .val (.int (p2 + (1 : Int32))), .val (.int (XT.ushr p3 (7 : Int32)))] [(.int ((XT.ushr p3 (7 : Int32)) &&& (-128 : Int32)))])) _
        refine XS.ifYes X3.here hx rfl (pc0 := 4) (pc' := 30) rfl (hb hby d1_4) rfl ((if0 _ _).trans (teq h4).1) (by decide) (by decide) ?_
        show Steps p.tables e below (T3.setTop (mkF m 30 #[.val (.ref a1), .val (.int (p2 + (1 : Int32))), .val (.int (XT.ushr p3 (7 : Int32)))] [])) _
        refine XS.aloadN X3.here hx rfl (hb hby d1_30) rfl rfl ?_
        show Steps p.tables e below (T3.setTop (mkF m 31 #[.val (.ref a1), .val (.int (p2 + (1 : Int32))), .val (.int (XT.ushr p3 (7 : Int32)))] [(.ref a1)])) _
        refine XS.iloadN X3.here hx rfl (hb hby d1_31) rfl ?_
        show Steps p.tables e below (T3.setTop (mkF m 32 #[.val (.ref a1), .val (.int (p2 + (1 : Int32))), .val (.int (XT.ushr p3 (7 : Int32)))] [(.int (p2 + (1 : Int32))), (.ref a1)])) _
        refine XS.iinc X3.here hx rfl (hb hby d1_32) rfl (l' := #[.val (.ref a1), .val (.int ((p2 + (1 : Int32)) + (1 : Int32))), .val (.int (XT.ushr p3 (7 : Int32)))]) rfl ?_
        show Steps p.tables e below (T3.setTop (mkF m 35 #[.val (.ref a1), .val (.int ((p2 + (1 : Int32)) + (1 : Int32))), .val (.int (XT.ushr p3 (7 : Int32)))] [(.int (p2 + (1 : Int32))), (.ref a1)])) _
        refine XS.iloadN X3.here hx rfl (hb hby d1_35) rfl ?_
        show Steps p.tables e below (T3.setTop (mkF m 36 #[.val (.ref a1), .val (.int ((p2 + (1 : Int32)) + (1 : Int32))), .val (.int (XT.ushr p3 (7 : Int32)))] [(.int (XT.ushr p3 (7 : Int32))), (.int (p2 + (1 : Int32))), (.ref a1)])) _
        refine XT.i2b X3.here hx rfl (hb hby d1_36) rfl ?_
        show Steps p.tables e below (T3.setTop (mkF m 37 #[.val (.ref a1), .val (.int ((p2 + (1 : Int32)) + (1 : Int32))), .val (.int (XT.ushr p3 (7 : Int32)))] [(.int (XT.ushr p3 (7 : Int32)).toInt8.toInt32), (.int (p2 + (1 : Int32))), (.ref a1)])) _
        refine st5 _ ?_
        show Steps p.tables e below (T5.setTop (mkF m 38 #[.val (.ref a1), .val (.int ((p2 + (1 : Int32)) + (1 : Int32))), .val (.int (XT.ushr p3 (7 : Int32)))] [])) _
        refine XS.iloadN X5.here hx rfl (hb hby d1_38) rfl ?_
        show Steps p.tables e below (T5.setTop (mkF m 39 #[.val (.ref a1), .val (.int ((p2 + (1 : Int32)) + (1 : Int32))), .val (.int (XT.ushr p3 (7 : Int32)))] [(.int ((p2 + (1 : Int32)) + (1 : Int32)))])) _
        exact retI X5 hx Bd.returns (hb hby d1_39) hr
      · show Q1 Z a1 p2 p3 k1 c0 c1 c2 c3 c4 c5 c6 c7 c8 h0 n0 _ T5.heap _
        rw [e5]
        have hx1 : f1_x0 p2 p3 c0 c1 c2 c3 c4 c5 c6 c7 c8 = (f1_9 p2 p3 c0 c1 c2 c3 c4 c5 c6 c7 c8) := by simp only [f1_x0, if_neg h1, if_pos h4]
        have hx2 : f1_x1 p2 p3 c0 c1 c2 c3 c4 c5 c6 c7 c8 = (f1_10 p2 p3 c0 c1 c2 c3 c4 c5 c6 c7 c8) := by simp only [f1_x1, if_neg h1, if_pos h4]
        have hx3 : f1_x2 p2 p3 c0 c1 c2 c3 c4 c5 c6 c7 c8 = (f1_11 p2 p3 c0 c1 c2 c3 c4 c5 c6 c7 c8) := by simp only [f1_x2, if_neg h1, if_pos h4]
        have hx4 : f1_x3 p2 p3 c0 c1 c2 c3 c4 c5 c6 c7 c8 = (f1_12 p2 p3 c0 c1 c2 c3 c4 c5 c6 c7 c8) := by simp only [f1_x3, if_neg h1, if_pos h4]
        have hx5 : f1_x4 p2 p3 c0 c1 c2 c3 c4 c5 c6 c7 c8 = (f1_13 p2 p3 c0 c1 c2 c3 c4 c5 c6 c7 c8) := by simp only [f1_x4, if_neg h1, if_pos h4]
        have hx6 : f1_x5 p2 p3 c0 c1 c2 c3 c4 c5 c6 c7 c8 = (f1_14 p2 p3 c0 c1 c2 c3 c4 c5 c6 c7 c8) := by simp only [f1_x5, if_neg h1, if_pos h4]
        have hx7 : f1_x6 p2 p3 c0 c1 c2 c3 c4 c5 c6 c7 c8 = (f1_15 p2 p3 c0 c1 c2 c3 c4 c5 c6 c7 c8) := by simp only [f1_x6, if_neg h1, if_pos h4]
        have hx8 : f1_x7 p2 p3 c0 c1 c2 c3 c4 c5 c6 c7 c8 = (f1_16 p2 p3 c0 c1 c2 c3 c4 c5 c6 c7 c8) := by simp only [f1_x7, if_neg h1, if_pos h4]
        have hx9 : f1_x8 p2 p3 c0 c1 c2 c3 c4 c5 c6 c7 c8 = (f1_17 p2 p3 c0 c1 c2 c3 c4 c5 c6 c7 c8) := by simp only [f1_x8, if_neg h1, if_pos h4]
        have hf : f1 p2 p3 c0 c1 c2 c3 c4 c5 c6 c7 c8 = ((p2 + (1 : Int32)) + (1 : Int32)) := by simp only [f1, if_neg h1, if_pos h4]
        exact ⟨by rw [hf], N5, K5, (by rw [hx1, hx2, hx3, hx4, hx5, hx6, hx7, hx8, hx9]; exact V5)⟩
    · obtain ⟨cl6, Ar6, q6, S6, M6, H6, G6⟩ := id V3
      obtain ⟨T6, h6, X6, e6, W6, st6⟩ := stB X3 hx hZ e3 Ar6 (j := (p2 + (1 : Int32))) (inb_of S6 (own_b9 (own_j1 hat))) (g := (mkF m 21 #[.val (.ref a1), .val (.int ((p2 + (1 : Int32)) + (1 : Int32))), .val (.int (XT.ushr p3 (7 : Int32)))] [(.int (((XT.ushr p3 (7 : Int32)) &&& (127 : Int32)) ||| (128 : Int32)).toInt8.toInt32), (.int (p2 + (1 : Int32))), (.ref a1)])) rfl rfl (hb hby d1_21)
      have K6 := K3.wr W6 (Or.inl (List.mem_of_getElem? (i := 0) rfl))
      have Z6 : n0 ≤ h6.size := Nat.le_trans Z3 (Keep.of_wr W6).1
      have N6 := Fr.snoc X6 N3 G_a1
      have V6w := Arv.set Ar6 q6 S6 M6 H6 G6 (fits_nar_byte _) W6 _ rfl (own_n9 (own_j1 hat))
      rw [own_set9 (own_j1 hat)] at V6w
      have V6 : Arv Z h6 a1 k1 .byte (9 : Int32) [(.int (f1_19 p2 p3 c0 c1 c2 c3 c4 c5 c6 c7 c8)), (.int (f1_20 p2 p3 c0 c1 c2 c3 c4 c5 c6 c7 c8)), (.int (f1_21 p2 p3 c0 c1 c2 c3 c4 c5 c6 c7 c8)), (.int (f1_22 p2 p3 c0 c1 c2 c3 c4 c5 c6 c7 c8)), (.int (f1_23 p2 p3 c0 c1 c2 c3 c4 c5 c6 c7 c8)), (.int (f1_24 p2 p3 c0 c1 c2 c3 c4 c5 c6 c7 c8)), (.int (f1_25 p2 p3 c0 c1 c2 c3 c4 c5 c6 c7 c8)), (.int (f1_26 p2 p3 c0 c1 c2 c3 c4 c5 c6 c7 c8)), (.int (f1_27 p2 p3 c0 c1 c2 c3 c4 c5 c6 c7 c8))] (.int (0 : Int32)) := V6w
      refine own_step (B := T6.setTop (mkF m 4 #[.val (.ref a1), .val (.int ((p2 + (1 : Int32)) + (1 : Int32))), .val (.int (XT.ushr (XT.ushr p3 (7 : Int32)) (7 : Int32)))] [(.int ((XT.ushr (XT.ushr p3 (7 : Int32)) (7 : Int32)) &&& (-128 : Int32)))])) (fun t k => ?_) ?_
      · show Steps p.tables e below (T3.setTop (mkF m 4 #[.val (.ref a1), .val (.int (p2 + (1 : Int32))), .val (.int (XT.ushr p3 (7 : Int32)))] [(.int ((XT.ushr p3 (7 : Int32)) &&& (-128 : Int32)))])) _
        refine XS.ifNo X3.here hx rfl (hb hby d1_4) rfl ((if0 _ _).trans (feq h4).1) ?_
        show Steps p.tables e below (T3.setTop (mkF m 7 #[.val (.ref a1), .val (.int (p2 + (1 : Int32))), .val (.int (XT.ushr p3 (7 : Int32)))] [])) _
        refine XS.aloadN X3.here hx rfl (hb hby d1_7) rfl rfl ?_
        show Steps p.tables e below (T3.setTop (mkF m 8 #[.val (.ref a1), .val (.int (p2 + (1 : Int32))), .val (.int (XT.ushr p3 (7 : Int32)))] [(.ref a1)])) _
        refine XS.iloadN X3.here hx rfl (hb hby d1_8) rfl ?_
        show Steps p.tables e below (T3.setTop (mkF m 9 #[.val (.ref a1), .val (.int (p2 + (1 : Int32))), .val (.int (XT.ushr p3 (7 : Int32)))] [(.int (p2 + (1 : Int32))), (.ref a1)])) _
        refine XS.iinc X3.here hx rfl (hb hby d1_9) rfl (l' := #[.val (.ref a1), .val (.int ((p2 + (1 : Int32)) + (1 : Int32))), .val (.int (XT.ushr p3 (7 : Int32)))]) rfl ?_
        show Steps p.tables e below (T3.setTop (mkF m 12 #[.val (.ref a1), .val (.int ((p2 + (1 : Int32)) + (1 : Int32))), .val (.int (XT.ushr p3 (7 : Int32)))] [(.int (p2 + (1 : Int32))), (.ref a1)])) _
        refine XS.iloadN X3.here hx rfl (hb hby d1_12) rfl ?_
        show Steps p.tables e below (T3.setTop (mkF m 13 #[.val (.ref a1), .val (.int ((p2 + (1 : Int32)) + (1 : Int32))), .val (.int (XT.ushr p3 (7 : Int32)))] [(.int (XT.ushr p3 (7 : Int32))), (.int (p2 + (1 : Int32))), (.ref a1)])) _
        refine XS.bipush X3.here hx rfl (hb hby d1_13) ?_
        show Steps p.tables e below (T3.setTop (mkF m 15 #[.val (.ref a1), .val (.int ((p2 + (1 : Int32)) + (1 : Int32))), .val (.int (XT.ushr p3 (7 : Int32)))] [(.int (127 : Int32)), (.int (XT.ushr p3 (7 : Int32))), (.int (p2 + (1 : Int32))), (.ref a1)])) _
        refine XS.iand X3.here hx rfl (hb hby d1_15) rfl ?_
        show Steps p.tables e below (T3.setTop (mkF m 16 #[.val (.ref a1), .val (.int ((p2 + (1 : Int32)) + (1 : Int32))), .val (.int (XT.ushr p3 (7 : Int32)))] [(.int ((XT.ushr p3 (7 : Int32)) &&& (127 : Int32))), (.int (p2 + (1 : Int32))), (.ref a1)])) _
        refine XS.sipush X3.here hx rfl (hb hby d1_16) ?_
        show Steps p.tables e below (T3.setTop (mkF m 19 #[.val (.ref a1), .val (.int ((p2 + (1 : Int32)) + (1 : Int32))), .val (.int (XT.ushr p3 (7 : Int32)))] [(.int (128 : Int32)), (.int ((XT.ushr p3 (7 : Int32)) &&& (127 : Int32))), (.int (p2 + (1 : Int32))), (.ref a1)])) _
        refine XT.ior X3.here hx rfl (hb hby d1_19) rfl ?_
        show Steps p.tables e below (T3.setTop (mkF m 20 #[.val (.ref a1), .val (.int ((p2 + (1 : Int32)) + (1 : Int32))), .val (.int (XT.ushr p3 (7 : Int32)))] [(.int (((XT.ushr p3 (7 : Int32)) &&& (127 : Int32)) ||| (128 : Int32))), (.int (p2 + (1 : Int32))), (.ref a1)])) _
        refine XT.i2b X3.here hx rfl (hb hby d1_20) rfl ?_
        show Steps p.tables e below (T3.setTop (mkF m 21 #[.val (.ref a1), .val (.int ((p2 + (1 : Int32)) + (1 : Int32))), .val (.int (XT.ushr p3 (7 : Int32)))] [(.int (((XT.ushr p3 (7 : Int32)) &&& (127 : Int32)) ||| (128 : Int32)).toInt8.toInt32), (.int (p2 + (1 : Int32))), (.ref a1)])) _
        refine st6 _ ?_
        show Steps p.tables e below (T6.setTop (mkF m 22 #[.val (.ref a1), .val (.int ((p2 + (1 : Int32)) + (1 : Int32))), .val (.int (XT.ushr p3 (7 : Int32)))] [])) _
        refine XS.iloadN X6.here hx rfl (hb hby d1_22) rfl ?_
        show Steps p.tables e below (T6.setTop (mkF m 23 #[.val (.ref a1), .val (.int ((p2 + (1 : Int32)) + (1 : Int32))), .val (.int (XT.ushr p3 (7 : Int32)))] [(.int (XT.ushr p3 (7 : Int32)))])) _
        refine XS.bipush X6.here hx rfl (hb hby d1_23) ?_
        show Steps p.tables e below (T6.setTop (mkF m 25 #[.val (.ref a1), .val (.int ((p2 + (1 : Int32)) + (1 : Int32))), .val (.int (XT.ushr p3 (7 : Int32)))] [(.int (7 : Int32)), (.int (XT.ushr p3 (7 : Int32)))])) _
        refine XT.iushr X6.here hx rfl (hb hby d1_25) rfl ?_
        show Steps p.tables e below (T6.setTop (mkF m 26 #[.val (.ref a1), .val (.int ((p2 + (1 : Int32)) + (1 : Int32))), .val (.int (XT.ushr p3 (7 : Int32)))] [(.int (XT.ushr (XT.ushr p3 (7 : Int32)) (7 : Int32)))])) _
        refine XS.istoreN X6.here hx rfl (hb hby d1_26) rfl (l' := #[.val (.ref a1), .val (.int ((p2 + (1 : Int32)) + (1 : Int32))), .val (.int (XT.ushr (XT.ushr p3 (7 : Int32)) (7 : Int32)))]) rfl ?_
        show Steps p.tables e below (T6.setTop (mkF m 27 #[.val (.ref a1), .val (.int ((p2 + (1 : Int32)) + (1 : Int32))), .val (.int (XT.ushr (XT.ushr p3 (7 : Int32)) (7 : Int32)))] [])) _
        refine XS.goto X6.here hx rfl (pc0 := 27) (pc' := 0) rfl (hb hby d1_27) (by decide) (by decide) ?_
        show Steps p.tables e below (T6.setTop (mkF m 0 #[.val (.ref a1), .val (.int ((p2 + (1 : Int32)) + (1 : Int32))), .val (.int (XT.ushr (XT.ushr p3 (7 : Int32)) (7 : Int32)))] [])) _
        refine XS.iloadN X6.here hx rfl (hb hby d1_0) rfl ?_
        show Steps p.tables e below (T6.setTop (mkF m 1 #[.val (.ref a1), .val (.int ((p2 + (1 : Int32)) + (1 : Int32))), .val (.int (XT.ushr (XT.ushr p3 (7 : Int32)) (7 : Int32)))] [(.int (XT.ushr (XT.ushr p3 (7 : Int32)) (7 : Int32)))])) _
        refine XS.bipush X6.here hx rfl (hb hby d1_1) ?_
        show Steps p.tables e below (T6.setTop (mkF m 3 #[.val (.ref a1), .val (.int ((p2 + (1 : Int32)) + (1 : Int32))), .val (.int (XT.ushr (XT.ushr p3 (7 : Int32)) (7 : Int32)))] [(.int (-128 : Int32)), (.int (XT.ushr (XT.ushr p3 (7 : Int32)) (7 : Int32)))])) _
        refine XS.iand X6.here hx rfl (hb hby d1_3) rfl ?_
        exact k
      by_cases h7 : ((XT.ushr (XT.ushr p3 (7 : Int32)) (7 : Int32)) &&& (-128 : Int32)) = (0 : Int32)
      · obtain ⟨cl8, Ar8, q8, S8, M8, H8, G8⟩ := id V6
        obtain ⟨T8, h8, X8, e8, W8, st8⟩ := stB X6 hx hZ e6 Ar8 (j := ((p2 + (1 : Int32)) + (1 : Int32))) (inb_of S8 (own_b9 (own_j2 hat))) (g := (mkF m 37 #[.val (.ref a1), .val (.int (((p2 + (1 : Int32)) + (1 : Int32)) + (1 : Int32))), .val (.int (XT.ushr (XT.ushr p3 (7 : Int32)) (7 : Int32)))] [(.int (XT.ushr (XT.ushr p3 (7 : Int32)) (7 : Int32)).toInt8.toInt32), (.int ((p2 + (1 : Int32)) + (1 : Int32))), (.ref a1)])) rfl rfl (hb hby d1_37)
        have K8 := K6.wr W8 (Or.inl (List.mem_of_getElem? (i := 0) rfl))
        have Z8 : n0 ≤ h8.size := Nat.le_trans Z6 (Keep.of_wr W8).1
        have N8 := Fr.snoc X8 N6 G_a1
        have V8w := Arv.set Ar8 q8 S8 M8 H8 G8 (fits_nar_byte _) W8 _ rfl (own_n9 (own_j2 hat))
        rw [own_set9 (own_j2 hat)] at V8w
        have V8 : Arv Z h8 a1 k1 .byte (9 : Int32) [(.int (f1_28 p2 p3 c0 c1 c2 c3 c4 c5 c6 c7 c8)), (.int (f1_29 p2 p3 c0 c1 c2 c3 c4 c5 c6 c7 c8)), (.int (f1_30 p2 p3 c0 c1 c2 c3 c4 c5 c6 c7 c8)), (.int (f1_31 p2 p3 c0 c1 c2 c3 c4 c5 c6 c7 c8)), (.int (f1_32 p2 p3 c0 c1 c2 c3 c4 c5 c6 c7 c8)), (.int (f1_33 p2 p3 c0 c1 c2 c3 c4 c5 c6 c7 c8)), (.int (f1_34 p2 p3 c0 c1 c2 c3 c4 c5 c6 c7 c8)), (.int (f1_35 p2 p3 c0 c1 c2 c3 c4 c5 c6 c7 c8)), (.int (f1_36 p2 p3 c0 c1 c2 c3 c4 c5 c6 c7 c8))] (.int (0 : Int32)) := V8w
        obtain ⟨fs, hr, hrun, hended, hW, hsame⟩ := X8.leave (v := some (.int (((p2 + (1 : Int32)) + (1 : Int32)) + (1 : Int32)))) (fun h => by rw [Bd.returns] at h; cases h)
        refine ⟨_, _, ?_, hrun, hended, _, _, rfl, ?_, ⟨_, rfl⟩, hW, hsame.mono (by decide) (by decide)⟩
        · show Steps p.tables e below (T6.setTop (mkF m 4 #[.val (.ref a1), .val (.int ((p2 + (1 : Int32)) + (1 : Int32))), .val (.int (XT.ushr (XT.ushr p3 (7 : Int32)) (7 : Int32)))] [(.int ((XT.ushr (XT.ushr p3 (7 : Int32)) (7 : Int32)) &&& (-128 : Int32)))])) _
          refine XS.ifYes X6.here hx rfl (pc0 := 4) (pc' := 30) rfl (hb hby d1_4) rfl ((if0 _ _).trans (teq h7).1) (by decide) (by decide) ?_
          show Steps p.tables e below (T6.setTop (mkF m 30 #[.val (.ref a1), .val (.int ((p2 + (1 : Int32)) + (1 : Int32))), .val (.int (XT.ushr (XT.ushr p3 (7 : Int32)) (7 : Int32)))] [])) _
          refine XS.aloadN X6.here hx rfl (hb hby d1_30) rfl rfl ?_
          show Steps p.tables e below (T6.setTop (mkF m 31 #[.val (.ref a1), .val (.int ((p2 + (1 : Int32)) + (1 : Int32))), .val (.int (XT.ushr (XT.ushr p3 (7 : Int32)) (7 : Int32)))] [(.ref a1)])) _
          refine XS.iloadN X6.here hx rfl (hb hby d1_31) rfl ?_
          show Steps p.tables e below (T6.setTop (mkF m 32 #[.val (.ref a1), .val (.int ((p2 + (1 : Int32)) + (1 : Int32))), .val (.int (XT.ushr (XT.ushr p3 (7 : Int32)) (7 : Int32)))] [(.int ((p2 + (1 : Int32)) + (1 : Int32))), (.ref a1)])) _
          refine XS.iinc X6.here hx rfl (hb hby d1_32) rfl (l' := #[.val (.ref a1), .val (.int (((p2 + (1 : Int32)) + (1 : Int32)) + (1 : Int32))), .val (.int (XT.ushr (XT.ushr p3 (7 : Int32)) (7 : Int32)))]) rfl ?_
          show Steps p.tables e below (T6.setTop (mkF m 35 #[.val (.ref a1), .val (.int (((p2 + (1 : Int32)) + (1 : Int32)) + (1 : Int32))), .val (.int (XT.ushr (XT.ushr p3 (7 : Int32)) (7 : Int32)))] [(.int ((p2 + (1 : Int32)) + (1 : Int32))), (.ref a1)])) _
          refine XS.iloadN X6.here hx rfl (hb hby d1_35) rfl ?_
          show Steps p.tables e below (T6.setTop (mkF m 36 #[.val (.ref a1), .val (.int (((p2 + (1 : Int32)) + (1 : Int32)) + (1 : Int32))), .val (.int (XT.ushr (XT.ushr p3 (7 : Int32)) (7 : Int32)))] [(.int (XT.ushr (XT.ushr p3 (7 : Int32)) (7 : Int32))), (.int ((p2 + (1 : Int32)) + (1 : Int32))), (.ref a1)])) _
          refine XT.i2b X6.here hx rfl (hb hby d1_36) rfl ?_
          show Steps p.tables e below (T6.setTop (mkF m 37 #[.val (.ref a1), .val (.int (((p2 + (1 : Int32)) + (1 : Int32)) + (1 : Int32))), .val (.int (XT.ushr (XT.ushr p3 (7 : Int32)) (7 : Int32)))] [(.int (XT.ushr (XT.ushr p3 (7 : Int32)) (7 : Int32)).toInt8.toInt32), (.int ((p2 + (1 : Int32)) + (1 : Int32))), (.ref a1)])) _
          refine st8 _ ?_
          show Steps p.tables e below (T8.setTop (mkF m 38 #[.val (.ref a1), .val (.int (((p2 + (1 : Int32)) + (1 : Int32)) + (1 : Int32))), .val (.int (XT.ushr (XT.ushr p3 (7 : Int32)) (7 : Int32)))] [])) _
          refine XS.iloadN X8.here hx rfl (hb hby d1_38) rfl ?_
          show Steps p.tables e below (T8.setTop (mkF m 39 #[.val (.ref a1), .val (.int (((p2 + (1 : Int32)) + (1 : Int32)) + (1 : Int32))), .val (.int (XT.ushr (XT.ushr p3 (7 : Int32)) (7 : Int32)))] [(.int (((p2 + (1 : Int32)) + (1 : Int32)) + (1 : Int32)))])) _
          exact retI X8 hx Bd.returns (hb hby d1_39) hr
        · show Q1 Z a1 p2 p3 k1 c0 c1 c2 c3 c4 c5 c6 c7 c8 h0 n0 _ T8.heap _
          rw [e8]
          have hx1 : f1_x0 p2 p3 c0 c1 c2 c3 c4 c5 c6 c7 c8 = (f1_28 p2 p3 c0 c1 c2 c3 c4 c5 c6 c7 c8) := by simp only [f1_x0, if_neg h1, if_neg h4, if_pos h7]
          have hx2 : f1_x1 p2 p3 c0 c1 c2 c3 c4 c5 c6 c7 c8 = (f1_29 p2 p3 c0 c1 c2 c3 c4 c5 c6 c7 c8) := by simp only [f1_x1, if_neg h1, if_neg h4, if_pos h7]
          have hx3 : f1_x2 p2 p3 c0 c1 c2 c3 c4 c5 c6 c7 c8 = (f1_30 p2 p3 c0 c1 c2 c3 c4 c5 c6 c7 c8) := by simp only [f1_x2, if_neg h1, if_neg h4, if_pos h7]
          have hx4 : f1_x3 p2 p3 c0 c1 c2 c3 c4 c5 c6 c7 c8 = (f1_31 p2 p3 c0 c1 c2 c3 c4 c5 c6 c7 c8) := by simp only [f1_x3, if_neg h1, if_neg h4, if_pos h7]
          have hx5 : f1_x4 p2 p3 c0 c1 c2 c3 c4 c5 c6 c7 c8 = (f1_32 p2 p3 c0 c1 c2 c3 c4 c5 c6 c7 c8) := by simp only [f1_x4, if_neg h1, if_neg h4, if_pos h7]
          have hx6 : f1_x5 p2 p3 c0 c1 c2 c3 c4 c5 c6 c7 c8 = (f1_33 p2 p3 c0 c1 c2 c3 c4 c5 c6 c7 c8) := by simp only [f1_x5, if_neg h1, if_neg h4, if_pos h7]
          have hx7 : f1_x6 p2 p3 c0 c1 c2 c3 c4 c5 c6 c7 c8 = (f1_34 p2 p3 c0 c1 c2 c3 c4 c5 c6 c7 c8) := by simp only [f1_x6, if_neg h1, if_neg h4, if_pos h7]
          have hx8 : f1_x7 p2 p3 c0 c1 c2 c3 c4 c5 c6 c7 c8 = (f1_35 p2 p3 c0 c1 c2 c3 c4 c5 c6 c7 c8) := by simp only [f1_x7, if_neg h1, if_neg h4, if_pos h7]
          have hx9 : f1_x8 p2 p3 c0 c1 c2 c3 c4 c5 c6 c7 c8 = (f1_36 p2 p3 c0 c1 c2 c3 c4 c5 c6 c7 c8) := by simp only [f1_x8, if_neg h1, if_neg h4, if_pos h7]
          have hf : f1 p2 p3 c0 c1 c2 c3 c4 c5 c6 c7 c8 = (((p2 + (1 : Int32)) + (1 : Int32)) + (1 : Int32)) := by simp only [f1, if_neg h1, if_neg h4, if_pos h7]
          exact ⟨by rw [hf], N8, K8, (by rw [hx1, hx2, hx3, hx4, hx5, hx6, hx7, hx8, hx9]; exact V8)⟩
      · obtain ⟨cl9, Ar9, q9, S9, M9, H9, G9⟩ := id V6
        obtain ⟨T9, h9, X9, e9, W9, st9⟩ := stB X6 hx hZ e6 Ar9 (j := ((p2 + (1 : Int32)) + (1 : Int32))) (inb_of S9 (own_b9 (own_j2 hat))) (g := (mkF m 21 #[.val (.ref a1), .val (.int (((p2 + (1 : Int32)) + (1 : Int32)) + (1 : Int32))), .val (.int (XT.ushr (XT.ushr p3 (7 : Int32)) (7 : Int32)))] [(.int (f1_37 p2 p3 c0 c1 c2 c3 c4 c5 c6 c7 c8)), (.int ((p2 + (1 : Int32)) + (1 : Int32))), (.ref a1)])) rfl rfl (hb hby d1_21)
        have K9 := K6.wr W9 (Or.inl (List.mem_of_getElem? (i := 0) rfl))
        have Z9 : n0 ≤ h9.size := Nat.le_trans Z6 (Keep.of_wr W9).1
        have N9 := Fr.snoc X9 N6 G_a1
        have V9w := Arv.set Ar9 q9 S9 M9 H9 G9 (fits_nar_byte _) W9 _ rfl (own_n9 (own_j2 hat))
        rw [own_set9 (own_j2 hat)] at V9w
        have V9 : Arv Z h9 a1 k1 .byte (9 : Int32) [(.int (f1_38 p2 p3 c0 c1 c2 c3 c4 c5 c6 c7 c8)), (.int (f1_39 p2 p3 c0 c1 c2 c3 c4 c5 c6 c7 c8)), (.int (f1_40 p2 p3 c0 c1 c2 c3 c4 c5 c6 c7 c8)), (.int (f1_41 p2 p3 c0 c1 c2 c3 c4 c5 c6 c7 c8)), (.int (f1_42 p2 p3 c0 c1 c2 c3 c4 c5 c6 c7 c8)), (.int (f1_43 p2 p3 c0 c1 c2 c3 c4 c5 c6 c7 c8)), (.int (f1_44 p2 p3 c0 c1 c2 c3 c4 c5 c6 c7 c8)), (.int (f1_45 p2 p3 c0 c1 c2 c3 c4 c5 c6 c7 c8)), (.int (f1_46 p2 p3 c0 c1 c2 c3 c4 c5 c6 c7 c8))] (.int (0 : Int32)) := V9w
        refine own_step (B := T9.setTop (mkF m 4 #[.val (.ref a1), .val (.int (((p2 + (1 : Int32)) + (1 : Int32)) + (1 : Int32))), .val (.int (XT.ushr (XT.ushr (XT.ushr p3 (7 : Int32)) (7 : Int32)) (7 : Int32)))] [(.int ((XT.ushr (XT.ushr (XT.ushr p3 (7 : Int32)) (7 : Int32)) (7 : Int32)) &&& (-128 : Int32)))])) (fun t k => ?_) ?_
        · show Steps p.tables e below (T6.setTop (mkF m 4 #[.val (.ref a1), .val (.int ((p2 + (1 : Int32)) + (1 : Int32))), .val (.int (XT.ushr (XT.ushr p3 (7 : Int32)) (7 : Int32)))] [(.int ((XT.ushr (XT.ushr p3 (7 : Int32)) (7 : Int32)) &&& (-128 : Int32)))])) _
          refine XS.ifNo X6.here hx rfl (hb hby d1_4) rfl ((if0 _ _).trans (feq h7).1) ?_
          show Steps p.tables e below (T6.setTop (mkF m 7 #[.val (.ref a1), .val (.int ((p2 + (1 : Int32)) + (1 : Int32))), .val (.int (XT.ushr (XT.ushr p3 (7 : Int32)) (7 : Int32)))] [])) _
          refine XS.aloadN X6.here hx rfl (hb hby d1_7) rfl rfl ?_
          show Steps p.tables e below (T6.setTop (mkF m 8 #[.val (.ref a1), .val (.int ((p2 + (1 : Int32)) + (1 : Int32))), .val (.int (XT.ushr (XT.ushr p3 (7 : Int32)) (7 : Int32)))] [(.ref a1)])) _
          refine XS.iloadN X6.here hx rfl (hb hby d1_8) rfl ?_
          show Steps p.tables e below (T6.setTop (mkF m 9 #[.val (.ref a1), .val (.int ((p2 + (1 : Int32)) + (1 : Int32))), .val (.int (XT.ushr (XT.ushr p3 (7 : Int32)) (7 : Int32)))] [(.int ((p2 + (1 : Int32)) + (1 : Int32))), (.ref a1)])) _
          refine XS.iinc X6.here hx rfl (hb hby d1_9) rfl (l' := #[.val (.ref a1), .val (.int (((p2 + (1 : Int32)) + (1 : Int32)) + (1 : Int32))), .val (.int (XT.ushr (XT.ushr p3 (7 : Int32)) (7 : Int32)))]) rfl ?_
          show Steps p.tables e below (T6.setTop (mkF m 12 #[.val (.ref a1), .val (.int (((p2 + (1 : Int32)) + (1 : Int32)) + (1 : Int32))), .val (.int (XT.ushr (XT.ushr p3 (7 : Int32)) (7 : Int32)))] [(.int ((p2 + (1 : Int32)) + (1 : Int32))), (.ref a1)])) _
          refine XS.iloadN X6.here hx rfl (hb hby d1_12) rfl ?_
          show Steps p.tables e below (T6.setTop (mkF m 13 #[.val (.ref a1), .val (.int (((p2 + (1 : Int32)) + (1 : Int32)) + (1 : Int32))), .val (.int (XT.ushr (XT.ushr p3 (7 : Int32)) (7 : Int32)))] [(.int (XT.ushr (XT.ushr p3 (7 : Int32)) (7 : Int32))), (.int ((p2 + (1 : Int32)) + (1 : Int32))), (.ref a1)])) _
          refine XS.bipush X6.here hx rfl (hb hby d1_13) ?_
          show Steps p.tables e below (T6.setTop (mkF m 15 #[.val (.ref a1), .val (.int (((p2 + (1 : Int32)) + (1 : Int32)) + (1 : Int32))), .val (.int (XT.ushr (XT.ushr p3 (7 : Int32)) (7 : Int32)))] [(.int (127 : Int32)), (.int (XT.ushr (XT.ushr p3 (7 : Int32)) (7 : Int32))), (.int ((p2 + (1 : Int32)) + (1 : Int32))), (.ref a1)])) _
          refine XS.iand X6.here hx rfl (hb hby d1_15) rfl ?_
          show Steps p.tables e below (T6.setTop (mkF m 16 #[.val (.ref a1), .val (.int (((p2 + (1 : Int32)) + (1 : Int32)) + (1 : Int32))), .val (.int (XT.ushr (XT.ushr p3 (7 : Int32)) (7 : Int32)))] [(.int ((XT.ushr (XT.ushr p3 (7 : Int32)) (7 : Int32)) &&& (127 : Int32))), (.int ((p2 + (1 : Int32)) + (1 : Int32))), (.ref a1)])) _
          refine XS.sipush X6.here hx rfl (hb hby d1_16) ?_
          show Steps p.tables e below (T6.setTop (mkF m 19 #[.val (.ref a1), .val (.int (((p2 + (1 : Int32)) + (1 : Int32)) + (1 : Int32))), .val (.int (XT.ushr (XT.ushr p3 (7 : Int32)) (7 : Int32)))] [(.int (128 : Int32)), (.int ((XT.ushr (XT.ushr p3 (7 : Int32)) (7 : Int32)) &&& (127 : Int32))), (.int ((p2 + (1 : Int32)) + (1 : Int32))), (.ref a1)])) _
          refine XT.ior X6.here hx rfl (hb hby d1_19) rfl ?_
          show Steps p.tables e below (T6.setTop (mkF m 20 #[.val (.ref a1), .val (.int (((p2 + (1 : Int32)) + (1 : Int32)) + (1 : Int32))), .val (.int (XT.ushr (XT.ushr p3 (7 : Int32)) (7 : Int32)))] [(.int (((XT.ushr (XT.ushr p3 (7 : Int32)) (7 : Int32)) &&& (127 : Int32)) ||| (128 : Int32))), (.int ((p2 + (1 : Int32)) + (1 : Int32))), (.ref a1)])) _
          refine XT.i2b X6.here hx rfl (hb hby d1_20) rfl ?_
          show Steps p.tables e below (T6.setTop (mkF m 21 #[.val (.ref a1), .val (.int (((p2 + (1 : Int32)) + (1 : Int32)) + (1 : Int32))), .val (.int (XT.ushr (XT.ushr p3 (7 : Int32)) (7 : Int32)))] [(.int (f1_37 p2 p3 c0 c1 c2 c3 c4 c5 c6 c7 c8)), (.int ((p2 + (1 : Int32)) + (1 : Int32))), (.ref a1)])) _
          refine st9 _ ?_
          show Steps p.tables e below (T9.setTop (mkF m 22 #[.val (.ref a1), .val (.int (((p2 + (1 : Int32)) + (1 : Int32)) + (1 : Int32))), .val (.int (XT.ushr (XT.ushr p3 (7 : Int32)) (7 : Int32)))] [])) _
          refine XS.iloadN X9.here hx rfl (hb hby d1_22) rfl ?_
          show Steps p.tables e below (T9.setTop (mkF m 23 #[.val (.ref a1), .val (.int (((p2 + (1 : Int32)) + (1 : Int32)) + (1 : Int32))), .val (.int (XT.ushr (XT.ushr p3 (7 : Int32)) (7 : Int32)))] [(.int (XT.ushr (XT.ushr p3 (7 : Int32)) (7 : Int32)))])) _
          refine XS.bipush X9.here hx rfl (hb hby d1_23) ?_
          show Steps p.tables e below (T9.setTop (mkF m 25 #[.val (.ref a1), .val (.int (((p2 + (1 : Int32)) + (1 : Int32)) + (1 : Int32))), .val (.int (XT.ushr (XT.ushr p3 (7 : Int32)) (7 : Int32)))] [(.int (7 : Int32)), (.int (XT.ushr (XT.ushr p3 (7 : Int32)) (7 : Int32)))])) _
          refine XT.iushr X9.here hx rfl (hb hby d1_25) rfl ?_
          show Steps p.tables e below (T9.setTop (mkF m 26 #[.val (.ref a1), .val (.int (((p2 + (1 : Int32)) + (1 : Int32)) + (1 : Int32))), .val (.int (XT.ushr (XT.ushr p3 (7 : Int32)) (7 : Int32)))] [(.int (XT.ushr (XT.ushr (XT.ushr p3 (7 : Int32)) (7 : Int32)) (7 : Int32)))])) _
          refine XS.istoreN X9.here hx rfl (hb hby d1_26) rfl (l' := #[.val (.ref a1), .val (.int (((p2 + (1 : Int32)) + (1 : Int32)) + (1 : Int32))), .val (.int (XT.ushr (XT.ushr (XT.ushr p3 (7 : Int32)) (7 : Int32)) (7 : Int32)))]) rfl ?_
          show Steps p.tables e below (T9.setTop (mkF m 27 #[.val (.ref a1), .val (.int (((p2 + (1 : Int32)) + (1 : Int32)) + (1 : Int32))), .val (.int (XT.ushr (XT.ushr (XT.ushr p3 (7 : Int32)) (7 : Int32)) (7 : Int32)))] [])) _
          refine XS.goto X9.here hx rfl (pc0 := 27) (pc' := 0) rfl (hb hby d1_27) (by decide) (by decide) ?_
          show Steps p.tables e below (T9.setTop (mkF m 0 #[.val (.ref a1), .val (.int (((p2 + (1 : Int32)) + (1 : Int32)) + (1 : Int32))), .val (.int (XT.ushr (XT.ushr (XT.ushr p3 (7 : Int32)) (7 : Int32)) (7 : Int32)))] [])) _
          refine XS.iloadN X9.here hx rfl (hb hby d1_0) rfl ?_
          show Steps p.tables e below (T9.setTop (mkF m 1 #[.val (.ref a1), .val (.int (((p2 + (1 : Int32)) + (1 : Int32)) + (1 : Int32))), .val (.int (XT.ushr (XT.ushr (XT.ushr p3 (7 : Int32)) (7 : Int32)) (7 : Int32)))] [(.int (XT.ushr (XT.ushr (XT.ushr p3 (7 : Int32)) (7 : Int32)) (7 : Int32)))])) _
          refine XS.bipush X9.here hx rfl (hb hby d1_1) ?_
          show Steps p.tables e below (T9.setTop (mkF m 3 #[.val (.ref a1), .val (.int (((p2 + (1 : Int32)) + (1 : Int32)) + (1 : Int32))), .val (.int (XT.ushr (XT.ushr (XT.ushr p3 (7 : Int32)) (7 : Int32)) (7 : Int32)))] [(.int (-128 : Int32)), (.int (XT.ushr (XT.ushr (XT.ushr p3 (7 : Int32)) (7 : Int32)) (7 : Int32)))])) _
          refine XS.iand X9.here hx rfl (hb hby d1_3) rfl ?_
          exact k
        by_cases h10 : ((XT.ushr (XT.ushr (XT.ushr p3 (7 : Int32)) (7 : Int32)) (7 : Int32)) &&& (-128 : Int32)) = (0 : Int32)
        · obtain ⟨cl11, Ar11, q11, S11, M11, H11, G11⟩ := id V9
          obtain ⟨T11, h11, X11, e11, W11, st11⟩ := stB X9 hx hZ e9 Ar11 (j := (((p2 + (1 : Int32)) + (1 : Int32)) + (1 : Int32))) (inb_of S11 (own_b9 (own_j3 hat))) (g := (mkF m 37 #[.val (.ref a1), .val (.int ((((p2 + (1 : Int32)) + (1 : Int32)) + (1 : Int32)) + (1 : Int32))), .val (.int (XT.ushr (XT.ushr (XT.ushr p3 (7 : Int32)) (7 : Int32)) (7 : Int32)))] [(.int (XT.ushr (XT.ushr (XT.ushr p3 (7 : Int32)) (7 : Int32)) (7 : Int32)).toInt8.toInt32), (.int (((p2 + (1 : Int32)) + (1 : Int32)) + (1 : Int32))), (.ref a1)])) rfl rfl (hb hby d1_37)
          have K11 := K9.wr W11 (Or.inl (List.mem_of_getElem? (i := 0) rfl))
          have Z11 : n0 ≤ h11.size := Nat.le_trans Z9 (Keep.of_wr W11).1
          have N11 := Fr.snoc X11 N9 G_a1
          have V11w := Arv.set Ar11 q11 S11 M11 H11 G11 (fits_nar_byte _) W11 _ rfl (own_n9 (own_j3 hat))
          rw [own_set9 (own_j3 hat)] at V11w
          have V11 : Arv Z h11 a1 k1 .byte (9 : Int32) [(.int (f1_48 p2 p3 c0 c1 c2 c3 c4 c5 c6 c7 c8)), (.int (f1_49 p2 p3 c0 c1 c2 c3 c4 c5 c6 c7 c8)), (.int (f1_50 p2 p3 c0 c1 c2 c3 c4 c5 c6 c7 c8)), (.int (f1_51 p2 p3 c0 c1 c2 c3 c4 c5 c6 c7 c8)), (.int (f1_52 p2 p3 c0 c1 c2 c3 c4 c5 c6 c7 c8)), (.int (f1_53 p2 p3 c0 c1 c2 c3 c4 c5 c6 c7 c8)), (.int (f1_54 p2 p3 c0 c1 c2 c3 c4 c5 c6 c7 c8)), (.int (f1_55 p2 p3 c0 c1 c2 c3 c4 c5 c6 c7 c8)), (.int (f1_56 p2 p3 c0 c1 c2 c3 c4 c5 c6 c7 c8))] (.int (0 : Int32)) := V11w
          obtain ⟨fs, hr, hrun, hended, hW, hsame⟩ := X11.leave (v := some (.int ((((p2 + (1 : Int32)) + (1 : Int32)) + (1 : Int32)) + (1 : Int32)))) (fun h => by rw [Bd.returns] at h; cases h)
          refine ⟨_, _, ?_, hrun, hended, _, _, rfl, ?_, ⟨_, rfl⟩, hW, hsame.mono (by decide) (by decide)⟩
          · show Steps p.tables e below (T9.setTop (mkF m 4 #[.val (.ref a1), .val (.int (((p2 + (1 : Int32)) + (1 : Int32)) + (1 : Int32))), .val (.int (XT.ushr (XT.ushr (XT.ushr p3 (7 : Int32)) (7 : Int32)) (7 : Int32)))] [(.int ((XT.ushr (XT.ushr (XT.ushr p3 (7 : Int32)) (7 : Int32)) (7 : Int32)) &&& (-128 : Int32)))])) _
            refine XS.ifYes X9.here hx rfl (pc0 := 4) (pc' := 30) rfl (hb hby d1_4) rfl ((if0 _ _).trans (teq h10).1) (by decide) (by decide) ?_
            show Steps p.tables e below (T9.setTop (mkF m 30 #[.val (.ref a1), .val (.int (((p2 + (1 : Int32)) + (1 : Int32)) + (1 : Int32))), .val (.int (XT.ushr (XT.ushr (XT.ushr p3 (7 : Int32)) (7 : Int32)) (7 : Int32)))] [])) _
            refine XS.aloadN X9.here hx rfl (hb hby d1_30) rfl rfl ?_
            show Steps p.tables e below (T9.setTop (mkF m 31 #[.val (.ref a1), .val (.int (((p2 + (1 : Int32)) + (1 : Int32)) + (1 : Int32))), .val (.int (XT.ushr (XT.ushr (XT.ushr p3 (7 : Int32)) (7 : Int32)) (7 : Int32)))] [(.ref a1)])) _
            refine XS.iloadN X9.here hx rfl (hb hby d1_31) rfl ?_
            show Steps p.tables e below (T9.setTop (mkF m 32 #[.val (.ref a1), .val (.int (((p2 + (1 : Int32)) + (1 : Int32)) + (1 : Int32))), .val (.int (XT.ushr (XT.ushr (XT.ushr p3 (7 : Int32)) (7 : Int32)) (7 : Int32)))] [(.int (((p2 + (1 : Int32)) + (1 : Int32)) + (1 : Int32))), (.ref a1)])) _
            refine XS.iinc X9.here hx rfl (hb hby d1_32) rfl (l' := #[.val (.ref a1), .val (.int ((((p2 + (1 : Int32)) + (1 : Int32)) + (1 : Int32)) + (1 : Int32))), .val (.int (XT.ushr (XT.ushr (XT.ushr p3 (7 : Int32)) (7 : Int32)) (7 : Int32)))]) rfl ?_
            show Steps p.tables e below (T9.setTop (mkF m 35 #[.val (.ref a1), .val (.int ((((p2 + (1 : Int32)) + (1 : Int32)) + (1 : Int32)) + (1 : Int32))), .val (.int (XT.ushr (XT.ushr (XT.ushr p3 (7 : Int32)) (7 : Int32)) (7 : Int32)))] [(.int (((p2 + (1 : Int32)) + (1 : Int32)) + (1 : Int32))), (.ref a1)])) _
            refine XS.iloadN X9.here hx rfl (hb hby d1_35) rfl ?_
            show Steps p.tables e below (T9.setTop (mkF m 36 #[.val (.ref a1), .val (.int ((((p2 + (1 : Int32)) + (1 : Int32)) + (1 : Int32)) + (1 : Int32))), .val (.int (XT.ushr (XT.ushr (XT.ushr p3 (7 : Int32)) (7 : Int32)) (7 : Int32)))] [(.int (XT.ushr (XT.ushr (XT.ushr p3 (7 : Int32)) (7 : Int32)) (7 : Int32))), (.int (((p2 + (1 : Int32)) + (1 : Int32)) + (1 : Int32))), (.ref a1)])) _
            refine XT.i2b X9.here hx rfl (hb hby d1_36) rfl ?_
            show Steps p.tables e below (T9.setTop (mkF m 37 #[.val (.ref a1), .val (.int ((((p2 + (1 : Int32)) + (1 : Int32)) + (1 : Int32)) + (1 : Int32))), .val (.int (XT.ushr (XT.ushr (XT.ushr p3 (7 : Int32)) (7 : Int32)) (7 : Int32)))] [(.int (XT.ushr (XT.ushr (XT.ushr p3 (7 : Int32)) (7 : Int32)) (7 : Int32)).toInt8.toInt32), (.int (((p2 + (1 : Int32)) + (1 : Int32)) + (1 : Int32))), (.ref a1)])) _
            refine st11 _ ?_
            show Steps p.tables e below (T11.setTop (mkF m 38 #[.val (.ref a1), .val (.int ((((p2 + (1 : Int32)) + (1 : Int32)) + (1 : Int32)) + (1 : Int32))), .val (.int (XT.ushr (XT.ushr (XT.ushr p3 (7 : Int32)) (7 : Int32)) (7 : Int32)))] [])) _
            refine XS.iloadN X11.here hx rfl (hb hby d1_38) rfl ?_
            show Steps p.tables e below (T11.setTop (mkF m 39 #[.val (.ref a1), .val (.int ((((p2 + (1 : Int32)) + (1 : Int32)) + (1 : Int32)) + (1 : Int32))), .val (.int (XT.ushr (XT.ushr (XT.ushr p3 (7 : Int32)) (7 : Int32)) (7 : Int32)))] [(.int ((((p2 + (1 : Int32)) + (1 : Int32)) + (1 : Int32)) + (1 : Int32)))])) _
            exact retI X11 hx Bd.returns (hb hby d1_39) hr
          · show Q1 Z a1 p2 p3 k1 c0 c1 c2 c3 c4 c5 c6 c7 c8 h0 n0 _ T11.heap _
            rw [e11]
            have hx1 : f1_x0 p2 p3 c0 c1 c2 c3 c4 c5 c6 c7 c8 = (f1_48 p2 p3 c0 c1 c2 c3 c4 c5 c6 c7 c8) := by simp only [f1_x0, if_neg h1, if_neg h4, if_neg h7, if_pos h10]
            have hx2 : f1_x1 p2 p3 c0 c1 c2 c3 c4 c5 c6 c7 c8 = (f1_49 p2 p3 c0 c1 c2 c3 c4 c5 c6 c7 c8) := by simp only [f1_x1, if_neg h1, if_neg h4, if_neg h7, if_pos h10]
            have hx3 : f1_x2 p2 p3 c0 c1 c2 c3 c4 c5 c6 c7 c8 = (f1_50 p2 p3 c0 c1 c2 c3 c4 c5 c6 c7 c8) := by simp only [f1_x2, if_neg h1, if_neg h4, if_neg h7, if_pos h10]
            have hx4 : f1_x3 p2 p3 c0 c1 c2 c3 c4 c5 c6 c7 c8 = (f1_51 p2 p3 c0 c1 c2 c3 c4 c5 c6 c7 c8) := by simp only [f1_x3, if_neg h1, if_neg h4, if_neg h7, if_pos h10]
            have hx5 : f1_x4 p2 p3 c0 c1 c2 c3 c4 c5 c6 c7 c8 = (f1_52 p2 p3 c0 c1 c2 c3 c4 c5 c6 c7 c8) := by simp only [f1_x4, if_neg h1, if_neg h4, if_neg h7, if_pos h10]
            have hx6 : f1_x5 p2 p3 c0 c1 c2 c3 c4 c5 c6 c7 c8 = (f1_53 p2 p3 c0 c1 c2 c3 c4 c5 c6 c7 c8) := by simp only [f1_x5, if_neg h1, if_neg h4, if_neg h7, if_pos h10]
            have hx7 : f1_x6 p2 p3 c0 c1 c2 c3 c4 c5 c6 c7 c8 = (f1_54 p2 p3 c0 c1 c2 c3 c4 c5 c6 c7 c8) := by simp only [f1_x6, if_neg h1, if_neg h4, if_neg h7, if_pos h10]
            have hx8 : f1_x7 p2 p3 c0 c1 c2 c3 c4 c5 c6 c7 c8 = (f1_55 p2 p3 c0 c1 c2 c3 c4 c5 c6 c7 c8) := by simp only [f1_x7, if_neg h1, if_neg h4, if_neg h7, if_pos h10]
            have hx9 : f1_x8 p2 p3 c0 c1 c2 c3 c4 c5 c6 c7 c8 = (f1_56 p2 p3 c0 c1 c2 c3 c4 c5 c6 c7 c8) := by simp only [f1_x8, if_neg h1, if_neg h4, if_neg h7, if_pos h10]
            have hf : f1 p2 p3 c0 c1 c2 c3 c4 c5 c6 c7 c8 = ((((p2 + (1 : Int32)) + (1 : Int32)) + (1 : Int32)) + (1 : Int32)) := by simp only [f1, if_neg h1, if_neg h4, if_neg h7, if_pos h10]
            exact ⟨by rw [hf], N11, K11, (by rw [hx1, hx2, hx3, hx4, hx5, hx6, hx7, hx8, hx9]; exact V11)⟩
        · obtain ⟨cl12, Ar12, q12, S12, M12, H12, G12⟩ := id V9
          obtain ⟨T12, h12, X12, e12, W12, st12⟩ := stB X9 hx hZ e9 Ar12 (j := (((p2 + (1 : Int32)) + (1 : Int32)) + (1 : Int32))) (inb_of S12 (own_b9 (own_j3 hat))) (g := (mkF m 21 #[.val (.ref a1), .val (.int ((((p2 + (1 : Int32)) + (1 : Int32)) + (1 : Int32)) + (1 : Int32))), .val (.int (XT.ushr (XT.ushr (XT.ushr p3 (7 : Int32)) (7 : Int32)) (7 : Int32)))] [(.int (f1_57 p2 p3 c0 c1 c2 c3 c4 c5 c6 c7 c8).toInt8.toInt32), (.int (((p2 + (1 : Int32)) + (1 : Int32)) + (1 : Int32))), (.ref a1)])) rfl rfl (hb hby d1_21)
          have K12 := K9.wr W12 (Or.inl (List.mem_of_getElem? (i := 0) rfl))
          have Z12 : n0 ≤ h12.size := Nat.le_trans Z9 (Keep.of_wr W12).1
          have N12 := Fr.snoc X12 N9 G_a1
          have V12w := Arv.set Ar12 q12 S12 M12 H12 G12 (fits_nar_byte _) W12 _ rfl (own_n9 (own_j3 hat))
          rw [own_set9 (own_j3 hat)] at V12w
          have V12 : Arv Z h12 a1 k1 .byte (9 : Int32) [(.int (f1_58 p2 p3 c0 c1 c2 c3 c4 c5 c6 c7 c8)), (.int (f1_59 p2 p3 c0 c1 c2 c3 c4 c5 c6 c7 c8)), (.int (f1_60 p2 p3 c0 c1 c2 c3 c4 c5 c6 c7 c8)), (.int (f1_61 p2 p3 c0 c1 c2 c3 c4 c5 c6 c7 c8)), (.int (f1_62 p2 p3 c0 c1 c2 c3 c4 c5 c6 c7 c8)), (.int (f1_63 p2 p3 c0 c1 c2 c3 c4 c5 c6 c7 c8)), (.int (f1_64 p2 p3 c0 c1 c2 c3 c4 c5 c6 c7 c8)), (.int (f1_65 p2 p3 c0 c1 c2 c3 c4 c5 c6 c7 c8)), (.int (f1_66 p2 p3 c0 c1 c2 c3 c4 c5 c6 c7 c8))] (.int (0 : Int32)) := V12w
          have h13 : (f1_67 p2 p3 c0 c1 c2 c3 c4 c5 c6 c7 c8) = (0 : Int32) := own_28 p3
          obtain ⟨cl14, Ar14, q14, S14, M14, H14, G14⟩ := id V12
          obtain ⟨T14, h14, X14, e14, W14, st14⟩ := stB X12 hx hZ e12 Ar14 (j := ((((p2 + (1 : Int32)) + (1 : Int32)) + (1 : Int32)) + (1 : Int32))) (inb_of S14 (own_b9 (own_j4 hat))) (g := (mkF m 37 #[.val (.ref a1), .val (.int (((((p2 + (1 : Int32)) + (1 : Int32)) + (1 : Int32)) + (1 : Int32)) + (1 : Int32))), .val (.int (XT.ushr (XT.ushr (XT.ushr (XT.ushr p3 (7 : Int32)) (7 : Int32)) (7 : Int32)) (7 : Int32)))] [(.int (f1_68 p2 p3 c0 c1 c2 c3 c4 c5 c6 c7 c8)), (.int ((((p2 + (1 : Int32)) + (1 : Int32)) + (1 : Int32)) + (1 : Int32))), (.ref a1)])) rfl rfl (hb hby d1_37)
          have K14 := K12.wr W14 (Or.inl (List.mem_of_getElem? (i := 0) rfl))
          have Z14 : n0 ≤ h14.size := Nat.le_trans Z12 (Keep.of_wr W14).1
          have N14 := Fr.snoc X14 N12 G_a1
          have V14w := Arv.set Ar14 q14 S14 M14 H14 G14 (fits_nar_byte _) W14 _ rfl (own_n9 (own_j4 hat))
          rw [own_set9 (own_j4 hat)] at V14w
          have V14 : Arv Z h14 a1 k1 .byte (9 : Int32) [(.int (f1_69 p2 p3 c0 c1 c2 c3 c4 c5 c6 c7 c8)), (.int (f1_70 p2 p3 c0 c1 c2 c3 c4 c5 c6 c7 c8)), (.int (f1_71 p2 p3 c0 c1 c2 c3 c4 c5 c6 c7 c8)), (.int (f1_72 p2 p3 c0 c1 c2 c3 c4 c5 c6 c7 c8)), (.int (f1_73 p2 p3 c0 c1 c2 c3 c4 c5 c6 c7 c8)), (.int (f1_74 p2 p3 c0 c1 c2 c3 c4 c5 c6 c7 c8)), (.int (f1_75 p2 p3 c0 c1 c2 c3 c4 c5 c6 c7 c8)), (.int (f1_76 p2 p3 c0 c1 c2 c3 c4 c5 c6 c7 c8)), (.int (f1_77 p2 p3 c0 c1 c2 c3 c4 c5 c6 c7 c8))] (.int (0 : Int32)) := V14w
          obtain ⟨fs, hr, hrun, hended, hW, hsame⟩ := X14.leave (v := some (.int (((((p2 + (1 : Int32)) + (1 : Int32)) + (1 : Int32)) + (1 : Int32)) + (1 : Int32)))) (fun h => by rw [Bd.returns] at h; cases h)
          refine ⟨_, _, ?_, hrun, hended, _, _, rfl, ?_, ⟨_, rfl⟩, hW, hsame.mono (by decide) (by decide)⟩
          · show Steps p.tables e below (T9.setTop (mkF m 4 #[.val (.ref a1), .val (.int (((p2 + (1 : Int32)) + (1 : Int32)) + (1 : Int32))), .val (.int (XT.ushr (XT.ushr (XT.ushr p3 (7 : Int32)) (7 : Int32)) (7 : Int32)))] [(.int ((XT.ushr (XT.ushr (XT.ushr p3 (7 : Int32)) (7 : Int32)) (7 : Int32)) &&& (-128 : Int32)))])) _
            refine XS.ifNo X9.here hx rfl (hb hby d1_4) rfl ((if0 _ _).trans (feq h10).1) ?_
            show Steps p.tables e below (T9.setTop (mkF m 7 #[.val (.ref a1), .val (.int (((p2 + (1 : Int32)) + (1 : Int32)) + (1 : Int32))), .val (.int (XT.ushr (XT.ushr (XT.ushr p3 (7 : Int32)) (7 : Int32)) (7 : Int32)))] [])) _
            refine XS.aloadN X9.here hx rfl (hb hby d1_7) rfl rfl ?_
            show Steps p.tables e below (T9.setTop (mkF m 8 #[.val (.ref a1), .val (.int (((p2 + (1 : Int32)) + (1 : Int32)) + (1 : Int32))), .val (.int (XT.ushr (XT.ushr (XT.ushr p3 (7 : Int32)) (7 : Int32)) (7 : Int32)))] [(.ref a1)])) _
            refine XS.iloadN X9.here hx rfl (hb hby d1_8) rfl ?_
            show Steps p.tables e below (T9.setTop (mkF m 9 #[.val (.ref a1), .val (.int (((p2 + (1 : Int32)) + (1 : Int32)) + (1 : Int32))), .val (.int (XT.ushr (XT.ushr (XT.ushr p3 (7 : Int32)) (7 : Int32)) (7 : Int32)))] [(.int (((p2 + (1 : Int32)) + (1 : Int32)) + (1 : Int32))), (.ref a1)])) _
            refine XS.iinc X9.here hx rfl (hb hby d1_9) rfl (l' := #[.val (.ref a1), .val (.int ((((p2 + (1 : Int32)) + (1 : Int32)) + (1 : Int32)) + (1 : Int32))), .val (.int (XT.ushr (XT.ushr (XT.ushr p3 (7 : Int32)) (7 : Int32)) (7 : Int32)))]) rfl ?_
            show Steps p.tables e below (T9.setTop (mkF m 12 #[.val (.ref a1), .val (.int ((((p2 + (1 : Int32)) + (1 : Int32)) + (1 : Int32)) + (1 : Int32))), .val (.int (XT.ushr (XT.ushr (XT.ushr p3 (7 : Int32)) (7 : Int32)) (7 : Int32)))] [(.int (((p2 + (1 : Int32)) + (1 : Int32)) + (1 : Int32))), (.ref a1)])) _
            refine XS.iloadN X9.here hx rfl (hb hby d1_12) rfl ?_
            show Steps p.tables e below (T9.setTop (mkF m 13 #[.val (.ref a1), .val (.int ((((p2 + (1 : Int32)) + (1 : Int32)) + (1 : Int32)) + (1 : Int32))), .val (.int (XT.ushr (XT.ushr (XT.ushr p3 (7 : Int32)) (7 : Int32)) (7 : Int32)))] [(.int (XT.ushr (XT.ushr (XT.ushr p3 (7 : Int32)) (7 : Int32)) (7 : Int32))), (.int (((p2 + (1 : Int32)) + (1 : Int32)) + (1 : Int32))), (.ref a1)])) _
            refine XS.bipush X9.here hx rfl (hb hby d1_13) ?_
            show Steps p.tables e below (T9.setTop (mkF m 15 #[.val (.ref a1), .val (.int ((((p2 + (1 : Int32)) + (1 : Int32)) + (1 : Int32)) + (1 : Int32))), .val (.int (XT.ushr (XT.ushr (XT.ushr p3 (7 : Int32)) (7 : Int32)) (7 : Int32)))] [(.int (127 : Int32)), (.int (XT.ushr (XT.ushr (XT.ushr p3 (7 : Int32)) (7 : Int32)) (7 : Int32))), (.int (((p2 + (1 : Int32)) + (1 : Int32)) + (1 : Int32))), (.ref a1)])) _
            refine XS.iand X9.here hx rfl (hb hby d1_15) rfl ?_
            show Steps p.tables e below (T9.setTop (mkF m 16 #[.val (.ref a1), .val (.int ((((p2 + (1 : Int32)) + (1 : Int32)) + (1 : Int32)) + (1 : Int32))), .val (.int (XT.ushr (XT.ushr (XT.ushr p3 (7 : Int32)) (7 : Int32)) (7 : Int32)))] [(.int ((XT.ushr (XT.ushr (XT.ushr p3 (7 : Int32)) (7 : Int32)) (7 : Int32)) &&& (127 : Int32))), (.int (((p2 + (1 : Int32)) + (1 : Int32)) + (1 : Int32))), (.ref a1)])) _
            refine XS.sipush X9.here hx rfl (hb hby d1_16) ?_
            show Steps p.tables e below (T9.setTop (mkF m 19 #[.val (.ref a1), .val (.int ((((p2 + (1 : Int32)) + (1 : Int32)) + (1 : Int32)) + (1 : Int32))), .val (.int (XT.ushr (XT.ushr (XT.ushr p3 (7 : Int32)) (7 : Int32)) (7 : Int32)))] [(.int (128 : Int32)), (.int ((XT.ushr (XT.ushr (XT.ushr p3 (7 : Int32)) (7 : Int32)) (7 : Int32)) &&& (127 : Int32))), (.int (((p2 + (1 : Int32)) + (1 : Int32)) + (1 : Int32))), (.ref a1)])) _
            refine XT.ior X9.here hx rfl (hb hby d1_19) rfl ?_
            show Steps p.tables e below (T9.setTop (mkF m 20 #[.val (.ref a1), .val (.int ((((p2 + (1 : Int32)) + (1 : Int32)) + (1 : Int32)) + (1 : Int32))), .val (.int (XT.ushr (XT.ushr (XT.ushr p3 (7 : Int32)) (7 : Int32)) (7 : Int32)))] [(.int (f1_57 p2 p3 c0 c1 c2 c3 c4 c5 c6 c7 c8)), (.int (((p2 + (1 : Int32)) + (1 : Int32)) + (1 : Int32))), (.ref a1)])) _
            refine XT.i2b X9.here hx rfl (hb hby d1_20) rfl ?_
            show Steps p.tables e below (T9.setTop (mkF m 21 #[.val (.ref a1), .val (.int ((((p2 + (1 : Int32)) + (1 : Int32)) + (1 : Int32)) + (1 : Int32))), .val (.int (XT.ushr (XT.ushr (XT.ushr p3 (7 : Int32)) (7 : Int32)) (7 : Int32)))] [(.int (f1_57 p2 p3 c0 c1 c2 c3 c4 c5 c6 c7 c8).toInt8.toInt32), (.int (((p2 + (1 : Int32)) + (1 : Int32)) + (1 : Int32))), (.ref a1)])) _
            refine st12 _ ?_
            show Steps p.tables e below (T12.setTop (mkF m 22 #[.val (.ref a1), .val (.int ((((p2 + (1 : Int32)) + (1 : Int32)) + (1 : Int32)) + (1 : Int32))), .val (.int (XT.ushr (XT.ushr (XT.ushr p3 (7 : Int32)) (7 : Int32)) (7 : Int32)))] [])) _
            refine XS.iloadN X12.here hx rfl (hb hby d1_22) rfl ?_
            show Steps p.tables e below (T12.setTop (mkF m 23 #[.val (.ref a1), .val (.int ((((p2 + (1 : Int32)) + (1 : Int32)) + (1 : Int32)) + (1 : Int32))), .val (.int (XT.ushr (XT.ushr (XT.ushr p3 (7 : Int32)) (7 : Int32)) (7 : Int32)))] [(.int (XT.ushr (XT.ushr (XT.ushr p3 (7 : Int32)) (7 : Int32)) (7 : Int32)))])) _
            refine XS.bipush X12.here hx rfl (hb hby d1_23) ?_
            show Steps p.tables e below (T12.setTop (mkF m 25 #[.val (.ref a1), .val (.int ((((p2 + (1 : Int32)) + (1 : Int32)) + (1 : Int32)) + (1 : Int32))), .val (.int (XT.ushr (XT.ushr (XT.ushr p3 (7 : Int32)) (7 : Int32)) (7 : Int32)))] [(.int (7 : Int32)), (.int (XT.ushr (XT.ushr (XT.ushr p3 (7 : Int32)) (7 : Int32)) (7 : Int32)))])) _
            refine XT.iushr X12.here hx rfl (hb hby d1_25) rfl ?_
            show Steps p.tables e below (T12.setTop (mkF m 26 #[.val (.ref a1), .val (.int ((((p2 + (1 : Int32)) + (1 : Int32)) + (1 : Int32)) + (1 : Int32))), .val (.int (XT.ushr (XT.ushr (XT.ushr p3 (7 : Int32)) (7 : Int32)) (7 : Int32)))] [(.int (XT.ushr (XT.ushr (XT.ushr (XT.ushr p3 (7 : Int32)) (7 : Int32)) (7 : Int32)) (7 : Int32)))])) _
            refine XS.istoreN X12.here hx rfl (hb hby d1_26) rfl (l' := #[.val (.ref a1), .val (.int ((((p2 + (1 : Int32)) + (1 : Int32)) + (1 : Int32)) + (1 : Int32))), .val (.int (XT.ushr (XT.ushr (XT.ushr (XT.ushr p3 (7 : Int32)) (7 : Int32)) (7 : Int32)) (7 : Int32)))]) rfl ?_
            show Steps p.tables e below (T12.setTop (mkF m 27 #[.val (.ref a1), .val (.int ((((p2 + (1 : Int32)) + (1 : Int32)) + (1 : Int32)) + (1 : Int32))), .val (.int (XT.ushr (XT.ushr (XT.ushr (XT.ushr p3 (7 : Int32)) (7 : Int32)) (7 : Int32)) (7 : Int32)))] [])) _
            refine XS.goto X12.here hx rfl (pc0 := 27) (pc' := 0) rfl (hb hby d1_27) (by decide) (by decide) ?_
            show Steps p.tables e below (T12.setTop (mkF m 0 #[.val (.ref a1), .val (.int ((((p2 + (1 : Int32)) + (1 : Int32)) + (1 : Int32)) + (1 : Int32))), .val (.int (XT.ushr (XT.ushr (XT.ushr (XT.ushr p3 (7 : Int32)) (7 : Int32)) (7 : Int32)) (7 : Int32)))] [])) _
            refine XS.iloadN X12.here hx rfl (hb hby d1_0) rfl ?_
            show Steps p.tables e below (T12.setTop (mkF m 1 #[.val (.ref a1), .val (.int ((((p2 + (1 : Int32)) + (1 : Int32)) + (1 : Int32)) + (1 : Int32))), .val (.int (XT.ushr (XT.ushr (XT.ushr (XT.ushr p3 (7 : Int32)) (7 : Int32)) (7 : Int32)) (7 : Int32)))] [(.int (XT.ushr (XT.ushr (XT.ushr (XT.ushr p3 (7 : Int32)) (7 : Int32)) (7 : Int32)) (7 : Int32)))])) _
            refine XS.bipush X12.here hx rfl (hb hby d1_1) ?_
            show Steps p.tables e below (T12.setTop (mkF m 3 #[.val (.ref a1), .val (.int ((((p2 + (1 : Int32)) + (1 : Int32)) + (1 : Int32)) + (1 : Int32))), .val (.int (XT.ushr (XT.ushr (XT.ushr (XT.ushr p3 (7 : Int32)) (7 : Int32)) (7 : Int32)) (7 : Int32)))] [(.int (-128 : Int32)), (.int (XT.ushr (XT.ushr (XT.ushr (XT.ushr p3 (7 : Int32)) (7 : Int32)) (7 : Int32)) (7 : Int32)))])) _
            refine XS.iand X12.here hx rfl (hb hby d1_3) rfl ?_
            show Steps p.tables e below (T12.setTop (mkF m 4 #[.val (.ref a1), .val (.int ((((p2 + (1 : Int32)) + (1 : Int32)) + (1 : Int32)) + (1 : Int32))), .val (.int (XT.ushr (XT.ushr (XT.ushr (XT.ushr p3 (7 : Int32)) (7 : Int32)) (7 : Int32)) (7 : Int32)))] [(.int (f1_67 p2 p3 c0 c1 c2 c3 c4 c5 c6 c7 c8))])) _
            refine XS.ifYes X12.here hx rfl (pc0 := 4) (pc' := 30) rfl (hb hby d1_4) rfl ((if0 _ _).trans (teq h13).1) (by decide) (by decide) ?_
            show Steps p.tables e below (T12.setTop (mkF m 30 #[.val (.ref a1), .val (.int ((((p2 + (1 : Int32)) + (1 : Int32)) + (1 : Int32)) + (1 : Int32))), .val (.int (XT.ushr (XT.ushr (XT.ushr (XT.ushr p3 (7 : Int32)) (7 : Int32)) (7 : Int32)) (7 : Int32)))] [])) _
            refine XS.aloadN X12.here hx rfl (hb hby d1_30) rfl rfl ?_
            show Steps p.tables e below (T12.setTop (mkF m 31 #[.val (.ref a1), .val (.int ((((p2 + (1 : Int32)) + (1 : Int32)) + (1 : Int32)) + (1 : Int32))), .val (.int (XT.ushr (XT.ushr (XT.ushr (XT.ushr p3 (7 : Int32)) (7 : Int32)) (7 : Int32)) (7 : Int32)))] [(.ref a1)])) _
            refine XS.iloadN X12.here hx rfl (hb hby d1_31) rfl ?_
            show Steps p.tables e below (T12.setTop (mkF m 32 #[.val (.ref a1), .val (.int ((((p2 + (1 : Int32)) + (1 : Int32)) + (1 : Int32)) + (1 : Int32))), .val (.int (XT.ushr (XT.ushr (XT.ushr (XT.ushr p3 (7 : Int32)) (7 : Int32)) (7 : Int32)) (7 : Int32)))] [(.int ((((p2 + (1 : Int32)) + (1 : Int32)) + (1 : Int32)) + (1 : Int32))), (.ref a1)])) _
            refine XS.iinc X12.here hx rfl (hb hby d1_32) rfl (l' := #[.val (.ref a1), .val (.int (((((p2 + (1 : Int32)) + (1 : Int32)) + (1 : Int32)) + (1 : Int32)) + (1 : Int32))), .val (.int (XT.ushr (XT.ushr (XT.ushr (XT.ushr p3 (7 : Int32)) (7 : Int32)) (7 : Int32)) (7 : Int32)))]) rfl ?_
            show Steps p.tables e below (T12.setTop (mkF m 35 #[.val (.ref a1), .val (.int (((((p2 + (1 : Int32)) + (1 : Int32)) + (1 : Int32)) + (1 : Int32)) + (1 : Int32))), .val (.int (XT.ushr (XT.ushr (XT.ushr (XT.ushr p3 (7 : Int32)) (7 : Int32)) (7 : Int32)) (7 : Int32)))] [(.int ((((p2 + (1 : Int32)) + (1 : Int32)) + (1 : Int32)) + (1 : Int32))), (.ref a1)])) _
            refine XS.iloadN X12.here hx rfl (hb hby d1_35) rfl ?_
            show Steps p.tables e below (T12.setTop (mkF m 36 #[.val (.ref a1), .val (.int (((((p2 + (1 : Int32)) + (1 : Int32)) + (1 : Int32)) + (1 : Int32)) + (1 : Int32))), .val (.int (XT.ushr (XT.ushr (XT.ushr (XT.ushr p3 (7 : Int32)) (7 : Int32)) (7 : Int32)) (7 : Int32)))] [(.int (XT.ushr (XT.ushr (XT.ushr (XT.ushr p3 (7 : Int32)) (7 : Int32)) (7 : Int32)) (7 : Int32))), (.int ((((p2 + (1 : Int32)) + (1 : Int32)) + (1 : Int32)) + (1 : Int32))), (.ref a1)])) _
            refine XT.i2b X12.here hx rfl (hb hby d1_36) rfl ?_
            show Steps p.tables e below (T12.setTop (mkF m 37 #[.val (.ref a1), .val (.int (((((p2 + (1 : Int32)) + (1 : Int32)) + (1 : Int32)) + (1 : Int32)) + (1 : Int32))), .val (.int (XT.ushr (XT.ushr (XT.ushr (XT.ushr p3 (7 : Int32)) (7 : Int32)) (7 : Int32)) (7 : Int32)))] [(.int (f1_68 p2 p3 c0 c1 c2 c3 c4 c5 c6 c7 c8)), (.int ((((p2 + (1 : Int32)) + (1 : Int32)) + (1 : Int32)) + (1 : Int32))), (.ref a1)])) _
            refine st14 _ ?_
            show Steps p.tables e below (T14.setTop (mkF m 38 #[.val (.ref a1), .val (.int (((((p2 + (1 : Int32)) + (1 : Int32)) + (1 : Int32)) + (1 : Int32)) + (1 : Int32))), .val (.int (XT.ushr (XT.ushr (XT.ushr (XT.ushr p3 (7 : Int32)) (7 : Int32)) (7 : Int32)) (7 : Int32)))] [])) _
            refine XS.iloadN X14.here hx rfl (hb hby d1_38) rfl ?_
            show Steps p.tables e below (T14.setTop (mkF m 39 #[.val (.ref a1), .val (.int (((((p2 + (1 : Int32)) + (1 : Int32)) + (1 : Int32)) + (1 : Int32)) + (1 : Int32))), .val (.int (XT.ushr (XT.ushr (XT.ushr (XT.ushr p3 (7 : Int32)) (7 : Int32)) (7 : Int32)) (7 : Int32)))] [(.int (((((p2 + (1 : Int32)) + (1 : Int32)) + (1 : Int32)) + (1 : Int32)) + (1 : Int32)))])) _
            exact retI X14 hx Bd.returns (hb hby d1_39) hr
          · show Q1 Z a1 p2 p3 k1 c0 c1 c2 c3 c4 c5 c6 c7 c8 h0 n0 _ T14.heap _
            rw [e14]
            have hx1 : f1_x0 p2 p3 c0 c1 c2 c3 c4 c5 c6 c7 c8 = (f1_69 p2 p3 c0 c1 c2 c3 c4 c5 c6 c7 c8) := by simp only [f1_x0, if_neg h1, if_neg h4, if_neg h7, if_neg h10]
            have hx2 : f1_x1 p2 p3 c0 c1 c2 c3 c4 c5 c6 c7 c8 = (f1_70 p2 p3 c0 c1 c2 c3 c4 c5 c6 c7 c8) := by simp only [f1_x1, if_neg h1, if_neg h4, if_neg h7, if_neg h10]
            have hx3 : f1_x2 p2 p3 c0 c1 c2 c3 c4 c5 c6 c7 c8 = (f1_71 p2 p3 c0 c1 c2 c3 c4 c5 c6 c7 c8) := by simp only [f1_x2, if_neg h1, if_neg h4, if_neg h7, if_neg h10]
            have hx4 : f1_x3 p2 p3 c0 c1 c2 c3 c4 c5 c6 c7 c8 = (f1_72 p2 p3 c0 c1 c2 c3 c4 c5 c6 c7 c8) := by simp only [f1_x3, if_neg h1, if_neg h4, if_neg h7, if_neg h10]
            have hx5 : f1_x4 p2 p3 c0 c1 c2 c3 c4 c5 c6 c7 c8 = (f1_73 p2 p3 c0 c1 c2 c3 c4 c5 c6 c7 c8) := by simp only [f1_x4, if_neg h1, if_neg h4, if_neg h7, if_neg h10]
            have hx6 : f1_x5 p2 p3 c0 c1 c2 c3 c4 c5 c6 c7 c8 = (f1_74 p2 p3 c0 c1 c2 c3 c4 c5 c6 c7 c8) := by simp only [f1_x5, if_neg h1, if_neg h4, if_neg h7, if_neg h10]
            have hx7 : f1_x6 p2 p3 c0 c1 c2 c3 c4 c5 c6 c7 c8 = (f1_75 p2 p3 c0 c1 c2 c3 c4 c5 c6 c7 c8) := by simp only [f1_x6, if_neg h1, if_neg h4, if_neg h7, if_neg h10]
            have hx8 : f1_x7 p2 p3 c0 c1 c2 c3 c4 c5 c6 c7 c8 = (f1_76 p2 p3 c0 c1 c2 c3 c4 c5 c6 c7 c8) := by simp only [f1_x7, if_neg h1, if_neg h4, if_neg h7, if_neg h10]
            have hx9 : f1_x8 p2 p3 c0 c1 c2 c3 c4 c5 c6 c7 c8 = (f1_77 p2 p3 c0 c1 c2 c3 c4 c5 c6 c7 c8) := by simp only [f1_x8, if_neg h1, if_neg h4, if_neg h7, if_neg h10]
            have hf : f1 p2 p3 c0 c1 c2 c3 c4 c5 c6 c7 c8 = (((((p2 + (1 : Int32)) + (1 : Int32)) + (1 : Int32)) + (1 : Int32)) + (1 : Int32)) := by simp only [f1, if_neg h1, if_neg h4, if_neg h7, if_neg h10]
            exact ⟨by rw [hf], N14, K14, (by rw [hx1, hx2, hx3, hx4, hx5, hx6, hx7, hx8, hx9]; exact V14)⟩
theorem d2_0 : decode method_3_code 0 = .ok (.iload_n 0, 1) := by decide +kernel
theorem d2_1 : decode method_3_code 1 = .ok (.bipush 7, 2) := by decide +kernel
theorem d2_3 : decode method_3_code 3 = .ok (.iushr, 1) := by decide +kernel
theorem d2_4 : decode method_3_code 4 = .ok (.ifCond .ne 5, 3) := by decide +kernel
theorem d2_7 : decode method_3_code 7 = .ok (.iconst 1, 1) := by decide +kernel
theorem d2_8 : decode method_3_code 8 = .ok (.ireturn, 1) := by decide +kernel
theorem d2_9 : decode method_3_code 9 = .ok (.iload_n 0, 1) := by decide +kernel
theorem d2_10 : decode method_3_code 10 = .ok (.bipush 14, 2) := by decide +kernel
theorem d2_12 : decode method_3_code 12 = .ok (.iushr, 1) := by decide +kernel
theorem d2_13 : decode method_3_code 13 = .ok (.ifCond .ne 5, 3) := by decide +kernel
theorem d2_16 : decode method_3_code 16 = .ok (.iconst 2, 1) := by decide +kernel
theorem d2_17 : decode method_3_code 17 = .ok (.ireturn, 1) := by decide +kernel
theorem d2_18 : decode method_3_code 18 = .ok (.iload_n 0, 1) := by decide +kernel
theorem d2_19 : decode method_3_code 19 = .ok (.bipush 21, 2) := by decide +kernel
theorem d2_21 : decode method_3_code 21 = .ok (.iushr, 1) := by decide +kernel
theorem d2_22 : decode method_3_code 22 = .ok (.ifCond .ne 5, 3) := by decide +kernel
theorem d2_25 : decode method_3_code 25 = .ok (.iconst 3, 1) := by decide +kernel
theorem d2_26 : decode method_3_code 26 = .ok (.ireturn, 1) := by decide +kernel
theorem d2_27 : decode method_3_code 27 = .ok (.iload_n 0, 1) := by decide +kernel
theorem d2_28 : decode method_3_code 28 = .ok (.bipush 28, 2) := by decide +kernel
theorem d2_30 : decode method_3_code 30 = .ok (.iushr, 1) := by decide +kernel
theorem d2_31 : decode method_3_code 31 = .ok (.ifCond .ne 5, 3) := by decide +kernel
theorem d2_34 : decode method_3_code 34 = .ok (.iconst 4, 1) := by decide +kernel
theorem d2_35 : decode method_3_code 35 = .ok (.ireturn, 1) := by decide +kernel
theorem d2_36 : decode method_3_code 36 = .ok (.iconst 5, 1) := by decide +kernel
theorem d2_37 : decode method_3_code 37 = .ok (.ireturn, 1) := by decide +kernel
theorem pn_2 : plainName "com/example/stratum/stratum/index/PostingsPutVarIntPinLaw" = true := by first | (simp [plainName, overriddenIn]; done) | decide +kernel
theorem ef_2 (m : MethodId) (p1 : Int32) : entryFrame m #[(.int p1)] 1 = mkF m 0 #[.val (.int p1)] [] := by first | (simp [entryFrame, mkF, argsToLocals, Value.category]; done) | rfl
def Q2 (Z : State) (p1 : Int32) (h0 : Heap) (n0 : Nat) (v : Option Value) (h : Heap) (L : List Loc) : Prop := v = some (.int (f2 p1)) ∧ Fr n0 L ∧ h = h0
set_option maxRecDepth 65536 in
set_option maxHeartbeats 40000000 in
theorem rm2 (l : Launch) (Z : State) (a0 : Array Value) (hw : ∀ d ∈ tables_1, d.before a0 Z = true) (ws : List Jvm.Cond) (p1 : Int32) (h0 : Heap) (n0 : Nat) (Z0 : n0 ≤ h0.size) :
    MetFree l (⟨"com/example/stratum/stratum/index/PostingsPutVarIntPinLaw", "size", "(I)I"⟩ : MethodName) (head1 (Jvm.Cond.code (⟨"com/example/stratum/stratum/index/PostingsPutVarIntPinLaw", "size", "(I)I"⟩ : MethodName) method_3_code 1 (some .int) :: ws) ({ frames := 0, cells := 0, slots := 0, locals := 0 } : Room)) (fun a U => a = #[(.int p1)] ∧ Z.Warmed39 U.vm ∧ U.heap = h0) (fun _ _ _ _ _ => True) (fun _ U o U' => ∃ v L, o = .returned v ∧ Q2 Z p1 h0 n0 v U'.heap L ∧ FrameEnd U o U' L ({ frames := 0, cells := 0, slots := 0, locals := 0 } : Room).cells ({ frames := 0, cells := 0, slots := 0, locals := 0 } : Room).slots) := by
  refine MetFree.of_bodySF (plainFor_of_name pn_2) hisR ?_
  intro p e s m args below meth c s₁ Bd hml0 hP hK
  obtain ⟨rfl, hZ, hh⟩ := hP
  have hx := Bd.exec
  have hby := Bd.bytes
  have hml : c.maxLocals = 1 := hml0
  have hown : s.vm.findClass "com/example/stratum/stratum/index/PostingsPutVarIntPinLaw" = some m.cls := findClass_of_methodNamed Bd.named
  have hnm := (name_of_methodNamed Bd.named Bd.method).1
  have X0 : Stand p l e ({ frames := 0, cells := 0, slots := 0, locals := 0 } : Room) s m #[(.int p1)] below meth c s₁ [] 0 0 := Stand.of_body Bd
  have e0 : s₁.heap = h0 := by rw [← hh, Bd.state]; rfl
  have N0 := Fr.nil n0
  have pre0 : ∀ t, Steps p.tables e below (s₁.setTop (mkF m 0 #[.val (.int p1)] [])) t → Steps p.tables e below (s₁.setTop (entryFrame m #[(.int p1)] 1)) t := fun t k => castTop (ef_2 m p1) k
  refine own_step (Q := fun o U' => ∃ v L, o = .returned v ∧ Q2 Z p1 h0 n0 v U'.heap L ∧ FrameEnd s o U' L ({ frames := 0, cells := 0, slots := 0, locals := 0 } : Room).cells ({ frames := 0, cells := 0, slots := 0, locals := 0 } : Room).slots) pre0 ?_
  refine own_step (B := s₁.setTop (mkF m 4 #[.val (.int p1)] [(.int (XT.ushr p1 (7 : Int32)))])) (fun t k => ?_) ?_
  · show Steps p.tables e below (s₁.setTop (mkF m 0 #[.val (.int p1)] [])) _
    refine XS.iloadN X0.here hx rfl (hb hby d2_0) rfl ?_
    show Steps p.tables e below (s₁.setTop (mkF m 1 #[.val (.int p1)] [(.int p1)])) _
    refine XS.bipush X0.here hx rfl (hb hby d2_1) ?_
    show Steps p.tables e below (s₁.setTop (mkF m 3 #[.val (.int p1)] [(.int (7 : Int32)), (.int p1)])) _
    refine XT.iushr X0.here hx rfl (hb hby d2_3) rfl ?_
    exact k
  by_cases h1 : (XT.ushr p1 (7 : Int32)) = (0 : Int32)
  · obtain ⟨fs, hr, hrun, hended, hW, hsame⟩ := X0.leave (v := some (.int (1 : Int32))) (fun h => by rw [Bd.returns] at h; cases h)
    refine ⟨_, _, ?_, hrun, hended, _, _, rfl, ?_, ⟨_, rfl⟩, hW, hsame.mono (by decide) (by decide)⟩
    · show Steps p.tables e below (s₁.setTop (mkF m 4 #[.val (.int p1)] [(.int (XT.ushr p1 (7 : Int32)))])) _
      refine XS.ifNo X0.here hx rfl (hb hby d2_4) rfl ((if0 _ _).trans (teq h1).2) ?_
      show Steps p.tables e below (s₁.setTop (mkF m 7 #[.val (.int p1)] [])) _
      refine XS.iconst X0.here hx rfl (hb hby d2_7) ?_
      show Steps p.tables e below (s₁.setTop (mkF m 8 #[.val (.int p1)] [(.int (1 : Int32))])) _
      exact retI X0 hx Bd.returns (hb hby d2_8) hr
    · show Q2 Z p1 h0 n0 _ s₁.heap _
      rw [e0]
      have hf : f2 p1 = (1 : Int32) := by simp only [f2, if_pos h1]
      exact ⟨by rw [hf], N0, rfl⟩
  · refine own_step (B := s₁.setTop (mkF m 13 #[.val (.int p1)] [(.int (XT.ushr p1 (14 : Int32)))])) (fun t k => ?_) ?_
    · show Steps p.tables e below (s₁.setTop (mkF m 4 #[.val (.int p1)] [(.int (XT.ushr p1 (7 : Int32)))])) _
      refine XS.ifYes X0.here hx rfl (pc0 := 4) (pc' := 9) rfl (hb hby d2_4) rfl ((if0 _ _).trans (feq h1).2) (by decide) (by decide) ?_
      show Steps p.tables e below (s₁.setTop (mkF m 9 #[.val (.int p1)] [])) _
      refine XS.iloadN X0.here hx rfl (hb hby d2_9) rfl ?_
      show Steps p.tables e below (s₁.setTop (mkF m 10 #[.val (.int p1)] [(.int p1)])) _
      refine XS.bipush X0.here hx rfl (hb hby d2_10) ?_
      show Steps p.tables e below (s₁.setTop (mkF m 12 #[.val (.int p1)] [(.int (14 : Int32)), (.int p1)])) _
      refine XT.iushr X0.here hx rfl (hb hby d2_12) rfl ?_
      exact k
    by_cases h2 : (XT.ushr p1 (14 : Int32)) = (0 : Int32)
    · obtain ⟨fs, hr, hrun, hended, hW, hsame⟩ := X0.leave (v := some (.int (2 : Int32))) (fun h => by rw [Bd.returns] at h; cases h)
      refine ⟨_, _, ?_, hrun, hended, _, _, rfl, ?_, ⟨_, rfl⟩, hW, hsame.mono (by decide) (by decide)⟩
      · show Steps p.tables e below (s₁.setTop (mkF m 13 #[.val (.int p1)] [(.int (XT.ushr p1 (14 : Int32)))])) _
        refine XS.ifNo X0.here hx rfl (hb hby d2_13) rfl ((if0 _ _).trans (teq h2).2) ?_
        show Steps p.tables e below (s₁.setTop (mkF m 16 #[.val (.int p1)] [])) _
        refine XS.iconst X0.here hx rfl (hb hby d2_16) ?_
        show Steps p.tables e below (s₁.setTop (mkF m 17 #[.val (.int p1)] [(.int (2 : Int32))])) _
        exact retI X0 hx Bd.returns (hb hby d2_17) hr
      · show Q2 Z p1 h0 n0 _ s₁.heap _
        rw [e0]
        have hf : f2 p1 = (2 : Int32) := by simp only [f2, if_neg h1, if_pos h2]
        exact ⟨by rw [hf], N0, rfl⟩
    · refine own_step (B := s₁.setTop (mkF m 22 #[.val (.int p1)] [(.int (XT.ushr p1 (21 : Int32)))])) (fun t k => ?_) ?_
      · show Steps p.tables e below (s₁.setTop (mkF m 13 #[.val (.int p1)] [(.int (XT.ushr p1 (14 : Int32)))])) _
        refine XS.ifYes X0.here hx rfl (pc0 := 13) (pc' := 18) rfl (hb hby d2_13) rfl ((if0 _ _).trans (feq h2).2) (by decide) (by decide) ?_
        show Steps p.tables e below (s₁.setTop (mkF m 18 #[.val (.int p1)] [])) _
        refine XS.iloadN X0.here hx rfl (hb hby d2_18) rfl ?_
        show Steps p.tables e below (s₁.setTop (mkF m 19 #[.val (.int p1)] [(.int p1)])) _
        refine XS.bipush X0.here hx rfl (hb hby d2_19) ?_
        show Steps p.tables e below (s₁.setTop (mkF m 21 #[.val (.int p1)] [(.int (21 : Int32)), (.int p1)])) _
        refine XT.iushr X0.here hx rfl (hb hby d2_21) rfl ?_
        exact k
      by_cases h3 : (XT.ushr p1 (21 : Int32)) = (0 : Int32)
      · obtain ⟨fs, hr, hrun, hended, hW, hsame⟩ := X0.leave (v := some (.int (3 : Int32))) (fun h => by rw [Bd.returns] at h; cases h)
        refine ⟨_, _, ?_, hrun, hended, _, _, rfl, ?_, ⟨_, rfl⟩, hW, hsame.mono (by decide) (by decide)⟩
        · show Steps p.tables e below (s₁.setTop (mkF m 22 #[.val (.int p1)] [(.int (XT.ushr p1 (21 : Int32)))])) _
          refine XS.ifNo X0.here hx rfl (hb hby d2_22) rfl ((if0 _ _).trans (teq h3).2) ?_
          show Steps p.tables e below (s₁.setTop (mkF m 25 #[.val (.int p1)] [])) _
          refine XS.iconst X0.here hx rfl (hb hby d2_25) ?_
          show Steps p.tables e below (s₁.setTop (mkF m 26 #[.val (.int p1)] [(.int (3 : Int32))])) _
          exact retI X0 hx Bd.returns (hb hby d2_26) hr
        · show Q2 Z p1 h0 n0 _ s₁.heap _
          rw [e0]
          have hf : f2 p1 = (3 : Int32) := by simp only [f2, if_neg h1, if_neg h2, if_pos h3]
          exact ⟨by rw [hf], N0, rfl⟩
      · refine own_step (B := s₁.setTop (mkF m 31 #[.val (.int p1)] [(.int (XT.ushr p1 (28 : Int32)))])) (fun t k => ?_) ?_
        · show Steps p.tables e below (s₁.setTop (mkF m 22 #[.val (.int p1)] [(.int (XT.ushr p1 (21 : Int32)))])) _
          refine XS.ifYes X0.here hx rfl (pc0 := 22) (pc' := 27) rfl (hb hby d2_22) rfl ((if0 _ _).trans (feq h3).2) (by decide) (by decide) ?_
          show Steps p.tables e below (s₁.setTop (mkF m 27 #[.val (.int p1)] [])) _
          refine XS.iloadN X0.here hx rfl (hb hby d2_27) rfl ?_
          show Steps p.tables e below (s₁.setTop (mkF m 28 #[.val (.int p1)] [(.int p1)])) _
          refine XS.bipush X0.here hx rfl (hb hby d2_28) ?_
          show Steps p.tables e below (s₁.setTop (mkF m 30 #[.val (.int p1)] [(.int (28 : Int32)), (.int p1)])) _
          refine XT.iushr X0.here hx rfl (hb hby d2_30) rfl ?_
          exact k
        by_cases h4 : (XT.ushr p1 (28 : Int32)) = (0 : Int32)
        · obtain ⟨fs, hr, hrun, hended, hW, hsame⟩ := X0.leave (v := some (.int (4 : Int32))) (fun h => by rw [Bd.returns] at h; cases h)
          refine ⟨_, _, ?_, hrun, hended, _, _, rfl, ?_, ⟨_, rfl⟩, hW, hsame.mono (by decide) (by decide)⟩
          · show Steps p.tables e below (s₁.setTop (mkF m 31 #[.val (.int p1)] [(.int (XT.ushr p1 (28 : Int32)))])) _
            refine XS.ifNo X0.here hx rfl (hb hby d2_31) rfl ((if0 _ _).trans (teq h4).2) ?_
            show Steps p.tables e below (s₁.setTop (mkF m 34 #[.val (.int p1)] [])) _
            refine XS.iconst X0.here hx rfl (hb hby d2_34) ?_
            show Steps p.tables e below (s₁.setTop (mkF m 35 #[.val (.int p1)] [(.int (4 : Int32))])) _
            exact retI X0 hx Bd.returns (hb hby d2_35) hr
          · show Q2 Z p1 h0 n0 _ s₁.heap _
            rw [e0]
            have hf : f2 p1 = (4 : Int32) := by simp only [f2, if_neg h1, if_neg h2, if_neg h3, if_pos h4]
            exact ⟨by rw [hf], N0, rfl⟩
        · obtain ⟨fs, hr, hrun, hended, hW, hsame⟩ := X0.leave (v := some (.int (5 : Int32))) (fun h => by rw [Bd.returns] at h; cases h)
          refine ⟨_, _, ?_, hrun, hended, _, _, rfl, ?_, ⟨_, rfl⟩, hW, hsame.mono (by decide) (by decide)⟩
          · show Steps p.tables e below (s₁.setTop (mkF m 31 #[.val (.int p1)] [(.int (XT.ushr p1 (28 : Int32)))])) _
            refine XS.ifYes X0.here hx rfl (pc0 := 31) (pc' := 36) rfl (hb hby d2_31) rfl ((if0 _ _).trans (feq h4).2) (by decide) (by decide) ?_
            show Steps p.tables e below (s₁.setTop (mkF m 36 #[.val (.int p1)] [])) _
            refine XS.iconst X0.here hx rfl (hb hby d2_36) ?_
            show Steps p.tables e below (s₁.setTop (mkF m 37 #[.val (.int p1)] [(.int (5 : Int32))])) _
            exact retI X0 hx Bd.returns (hb hby d2_37) hr
          · show Q2 Z p1 h0 n0 _ s₁.heap _
            rw [e0]
            have hf : f2 p1 = (5 : Int32) := by simp only [f2, if_neg h1, if_neg h2, if_neg h3, if_neg h4]
            exact ⟨by rw [hf], N0, rfl⟩
theorem d3_0 : decode method_4_code 0 = .ok (.iload_n 1, 1) := by decide +kernel
theorem d3_1 : decode method_4_code 1 = .ok (.iload_n 2, 1) := by decide +kernel
theorem d3_2 : decode method_4_code 2 = .ok (.if_icmp .lt 10, 3) := by decide +kernel
theorem d3_5 : decode method_4_code 5 = .ok (.iload_n 1, 1) := by decide +kernel
theorem d3_6 : decode method_4_code 6 = .ok (.iload_n 2, 1) := by decide +kernel
theorem d3_7 : decode method_4_code 7 = .ok (.iload_n 3, 1) := by decide +kernel
theorem d3_8 : decode method_4_code 8 = .ok (.iadd, 1) := by decide +kernel
theorem d3_9 : decode method_4_code 9 = .ok (.if_icmp .lt 17, 3) := by decide +kernel
theorem d3_12 : decode method_4_code 12 = .ok (.aload_n 0, 1) := by decide +kernel
theorem d3_13 : decode method_4_code 13 = .ok (.iload_n 1, 1) := by decide +kernel
theorem d3_14 : decode method_4_code 14 = .ok (.baload, 1) := by decide +kernel
theorem d3_15 : decode method_4_code 15 = .ok (.iload 5, 2) := by decide +kernel
theorem d3_17 : decode method_4_code 17 = .ok (.if_icmp .ne 7, 3) := by decide +kernel
theorem d3_20 : decode method_4_code 20 = .ok (.iconst 1, 1) := by decide +kernel
theorem d3_21 : decode method_4_code 21 = .ok (.goto 4, 3) := by decide +kernel
theorem d3_24 : decode method_4_code 24 = .ok (.iconst 0, 1) := by decide +kernel
theorem d3_25 : decode method_4_code 25 = .ok (.ireturn, 1) := by decide +kernel
theorem d3_26 : decode method_4_code 26 = .ok (.iload_n 1, 1) := by decide +kernel
theorem d3_27 : decode method_4_code 27 = .ok (.iload_n 2, 1) := by decide +kernel
theorem d3_28 : decode method_4_code 28 = .ok (.isub, 1) := by decide +kernel
theorem d3_29 : decode method_4_code 29 = .ok (.istore 6, 2) := by decide +kernel
theorem d3_31 : decode method_4_code 31 = .ok (.iload 4, 2) := by decide +kernel
theorem d3_33 : decode method_4_code 33 = .ok (.bipush 7, 2) := by decide +kernel
theorem d3_35 : decode method_4_code 35 = .ok (.iload 6, 2) := by decide +kernel
theorem d3_37 : decode method_4_code 37 = .ok (.imul, 1) := by decide +kernel
theorem d3_38 : decode method_4_code 38 = .ok (.iushr, 1) := by decide +kernel
theorem d3_39 : decode method_4_code 39 = .ok (.bipush 127, 2) := by decide +kernel
theorem d3_41 : decode method_4_code 41 = .ok (.iand, 1) := by decide +kernel
theorem d3_42 : decode method_4_code 42 = .ok (.istore 7, 2) := by decide +kernel
theorem d3_44 : decode method_4_code 44 = .ok (.iload 6, 2) := by decide +kernel
theorem d3_46 : decode method_4_code 46 = .ok (.iload_n 3, 1) := by decide +kernel
theorem d3_47 : decode method_4_code 47 = .ok (.iconst 1, 1) := by decide +kernel
theorem d3_48 : decode method_4_code 48 = .ok (.isub, 1) := by decide +kernel
theorem d3_49 : decode method_4_code 49 = .ok (.if_icmp .ge 12, 3) := by decide +kernel
theorem d3_52 : decode method_4_code 52 = .ok (.iload 7, 2) := by decide +kernel
theorem d3_54 : decode method_4_code 54 = .ok (.sipush 128, 3) := by decide +kernel
theorem d3_57 : decode method_4_code 57 = .ok (.ior, 1) := by decide +kernel
theorem d3_58 : decode method_4_code 58 = .ok (.goto 5, 3) := by decide +kernel
theorem d3_61 : decode method_4_code 61 = .ok (.iload 7, 2) := by decide +kernel
theorem d3_63 : decode method_4_code 63 = .ok (.istore 8, 2) := by decide +kernel
theorem d3_65 : decode method_4_code 65 = .ok (.aload_n 0, 1) := by decide +kernel
theorem d3_66 : decode method_4_code 66 = .ok (.iload_n 1, 1) := by decide +kernel
theorem d3_67 : decode method_4_code 67 = .ok (.baload, 1) := by decide +kernel
theorem d3_68 : decode method_4_code 68 = .ok (.iload 8, 2) := by decide +kernel
theorem d3_70 : decode method_4_code 70 = .ok (.i2b, 1) := by decide +kernel
theorem d3_71 : decode method_4_code 71 = .ok (.if_icmp .ne 7, 3) := by decide +kernel
theorem d3_74 : decode method_4_code 74 = .ok (.iconst 1, 1) := by decide +kernel
theorem d3_75 : decode method_4_code 75 = .ok (.goto 4, 3) := by decide +kernel
theorem d3_78 : decode method_4_code 78 = .ok (.iconst 0, 1) := by decide +kernel
theorem d3_79 : decode method_4_code 79 = .ok (.ireturn, 1) := by decide +kernel
theorem pn_ok0 : plainName "com/example/stratum/stratum/index/PostingsPutVarIntPinLaw" = true := by first | (simp [plainName, overriddenIn]; done) | decide +kernel
theorem ef_ok0 (m : MethodId) (a1 : Addr) (p3 : Int32) (p4 : Int32) (p5 : Int32) (p6 : Int32) : entryFrame m #[(.ref a1), (.int (0 : Int32)), (.int p3), (.int p4), (.int p5), (.int p6)] 9 = mkF m 0 #[.val (.ref a1), .val (.int (0 : Int32)), .val (.int p3), .val (.int p4), .val (.int p5), .val (.int p6), .unset, .unset, .unset] [] := by first | (simp [entryFrame, mkF, argsToLocals, Value.category]; done) | rfl
def Qok0 (Z : State) (a1 : Addr) (p3 : Int32) (p4 : Int32) (p5 : Int32) (p6 : Int32) (k1 : ClassId) (c0 : Int32) (c1 : Int32) (c2 : Int32) (c3 : Int32) (c4 : Int32) (c5 : Int32) (c6 : Int32) (c7 : Int32) (c8 : Int32) (h0 : Heap) (n0 : Nat) (v : Option Value) (h : Heap) (L : List Loc) : Prop := v = some (.int (fok0 p3 p4 p5 p6 c0 c1 c2 c3 c4 c5 c6 c7 c8)) ∧ Fr n0 L ∧ h = h0
set_option maxRecDepth 65536 in
set_option maxHeartbeats 40000000 in
theorem rmok0 (l : Launch) (Z : State) (a0 : Array Value) (hw : ∀ d ∈ tables_1, d.before a0 Z = true) (ws : List Jvm.Cond) (a1 : Addr) (p3 : Int32) (p4 : Int32) (p5 : Int32) (p6 : Int32) (k1 : ClassId) (c0 : Int32) (c1 : Int32) (c2 : Int32) (c3 : Int32) (c4 : Int32) (c5 : Int32) (c6 : Int32) (c7 : Int32) (c8 : Int32) (h0 : Heap) (n0 : Nat) (Z0 : n0 ≤ h0.size) (A_a1 : Arv Z h0 a1 k1 .byte (9 : Int32) [(.int c0), (.int c1), (.int c2), (.int c3), (.int c4), (.int c5), (.int c6), (.int c7), (.int c8)] (.int (0 : Int32))) :
    MetFree l (⟨"com/example/stratum/stratum/index/PostingsPutVarIntPinLaw", "ok", "([BIIIIB)Z"⟩ : MethodName) (head1 (Jvm.Cond.code (⟨"com/example/stratum/stratum/index/PostingsPutVarIntPinLaw", "ok", "([BIIIIB)Z"⟩ : MethodName) method_4_code 9 (some .boolean) :: ws) ({ frames := 0, cells := 0, slots := 0, locals := 0 } : Room)) (fun a U => a = #[(.ref a1), (.int (0 : Int32)), (.int p3), (.int p4), (.int p5), (.int p6)] ∧ Z.Warmed39 U.vm ∧ U.heap = h0) (fun _ _ _ _ _ => True) (fun _ U o U' => ∃ v L, o = .returned v ∧ Qok0 Z a1 p3 p4 p5 p6 k1 c0 c1 c2 c3 c4 c5 c6 c7 c8 h0 n0 v U'.heap L ∧ FrameEnd U o U' L ({ frames := 0, cells := 0, slots := 0, locals := 0 } : Room).cells ({ frames := 0, cells := 0, slots := 0, locals := 0 } : Room).slots) := by
  refine MetFree.of_bodySF (plainFor_of_name pn_ok0) hisR ?_
  intro p e s m args below meth c s₁ Bd hml0 hP hK
  obtain ⟨rfl, hZ, hh⟩ := hP
  have hx := Bd.exec
  have hby := Bd.bytes
  have hml : c.maxLocals = 9 := hml0
  have hown : s.vm.findClass "com/example/stratum/stratum/index/PostingsPutVarIntPinLaw" = some m.cls := findClass_of_methodNamed Bd.named
  have hnm := (name_of_methodNamed Bd.named Bd.method).1
  have X0 : Stand p l e ({ frames := 0, cells := 0, slots := 0, locals := 0 } : Room) s m #[(.ref a1), (.int (0 : Int32)), (.int p3), (.int p4), (.int p5), (.int p6)] below meth c s₁ [] 0 0 := Stand.of_body Bd
  have e0 : s₁.heap = h0 := by rw [← hh, Bd.state]; rfl
  have N0 := Fr.nil n0
  have pre0 : ∀ t, Steps p.tables e below (s₁.setTop (mkF m 0 #[.val (.ref a1), .val (.int (0 : Int32)), .val (.int p3), .val (.int p4), .val (.int p5), .val (.int p6), .unset, .unset, .unset] [])) t → Steps p.tables e below (s₁.setTop (entryFrame m #[(.ref a1), (.int (0 : Int32)), (.int p3), (.int p4), (.int p5), (.int p6)] 9)) t := fun t k => castTop (ef_ok0 m a1 p3 p4 p5 p6) k
  refine own_step (Q := fun o U' => ∃ v L, o = .returned v ∧ Qok0 Z a1 p3 p4 p5 p6 k1 c0 c1 c2 c3 c4 c5 c6 c7 c8 h0 n0 v U'.heap L ∧ FrameEnd s o U' L ({ frames := 0, cells := 0, slots := 0, locals := 0 } : Room).cells ({ frames := 0, cells := 0, slots := 0, locals := 0 } : Room).slots) pre0 ?_
  refine own_step (B := s₁.setTop (mkF m 2 #[.val (.ref a1), .val (.int (0 : Int32)), .val (.int p3), .val (.int p4), .val (.int p5), .val (.int p6), .unset, .unset, .unset] [(.int p3), (.int (0 : Int32))])) (fun t k => ?_) ?_
  · show Steps p.tables e below (s₁.setTop (mkF m 0 #[.val (.ref a1), .val (.int (0 : Int32)), .val (.int p3), .val (.int p4), .val (.int p5), .val (.int p6), .unset, .unset, .unset] [])) _
    refine XS.iloadN X0.here hx rfl (hb hby d3_0) rfl ?_
    show Steps p.tables e below (s₁.setTop (mkF m 1 #[.val (.ref a1), .val (.int (0 : Int32)), .val (.int p3), .val (.int p4), .val (.int p5), .val (.int p6), .unset, .unset, .unset] [(.int (0 : Int32))])) _
    refine XS.iloadN X0.here hx rfl (hb hby d3_1) rfl ?_
    exact k
  by_cases h1 : (0 : Int32) < p3
  · obtain ⟨cl2, Ar2, -, S2, M2, H2, -⟩ := id A_a1
    have hin2 := inb_of (j := (0 : Int32)) S2 (by decide)
    have hat2 := H2.at hin2 (v := (.int c0)) (rfl)
    have st4 : ∀ t, Steps p.tables e below (s₁.setTop (mkF m 25 #[.val (.ref a1), .val (.int (0 : Int32)), .val (.int p3), .val (.int p4), .val (.int p5), .val (.int p6), .unset, .unset, .unset] [(.int (if c0 = p6 then (1 : Int32) else (0 : Int32)))])) t → Steps p.tables e below (s₁.setTop (mkF m 17 #[.val (.ref a1), .val (.int (0 : Int32)), .val (.int p3), .val (.int p4), .val (.int p5), .val (.int p6), .unset, .unset, .unset] [(.int p6), (.int c0)])) t := by
      intro t k
      by_cases h3 : c0 = p6
      · rw [show (if c0 = p6 then (1 : Int32) else (0 : Int32)) = (1 : Int32) from if_pos h3] at k
        show Steps p.tables e below (s₁.setTop (mkF m 17 #[.val (.ref a1), .val (.int (0 : Int32)), .val (.int p3), .val (.int p4), .val (.int p5), .val (.int p6), .unset, .unset, .unset] [(.int p6), (.int c0)])) _
        refine XS.icmpNo X0.here hx rfl (hb hby d3_17) rfl (teq h3).2 ?_
        show Steps p.tables e below (s₁.setTop (mkF m 20 #[.val (.ref a1), .val (.int (0 : Int32)), .val (.int p3), .val (.int p4), .val (.int p5), .val (.int p6), .unset, .unset, .unset] [])) _
        refine XS.iconst X0.here hx rfl (hb hby d3_20) ?_
        show Steps p.tables e below (s₁.setTop (mkF m 21 #[.val (.ref a1), .val (.int (0 : Int32)), .val (.int p3), .val (.int p4), .val (.int p5), .val (.int p6), .unset, .unset, .unset] [(.int (1 : Int32))])) _
        refine XS.goto X0.here hx rfl (pc0 := 21) (pc' := 25) rfl (hb hby d3_21) (by decide) (by decide) ?_
        exact k
      · rw [show (if c0 = p6 then (1 : Int32) else (0 : Int32)) = (0 : Int32) from if_neg h3] at k
        show Steps p.tables e below (s₁.setTop (mkF m 17 #[.val (.ref a1), .val (.int (0 : Int32)), .val (.int p3), .val (.int p4), .val (.int p5), .val (.int p6), .unset, .unset, .unset] [(.int p6), (.int c0)])) _
        refine XS.icmpYes X0.here hx rfl (pc0 := 17) (pc' := 24) rfl (hb hby d3_17) rfl (feq h3).2 (by decide) (by decide) ?_
        show Steps p.tables e below (s₁.setTop (mkF m 24 #[.val (.ref a1), .val (.int (0 : Int32)), .val (.int p3), .val (.int p4), .val (.int p5), .val (.int p6), .unset, .unset, .unset] [])) _
        refine XS.iconst X0.here hx rfl (hb hby d3_24) ?_
        exact k
    obtain ⟨fs, hr, hrun, hended, hW, hsame⟩ := X0.leave (v := some (.int ((if c0 = p6 then (1 : Int32) else (0 : Int32)) &&& 1))) (fun h => by rw [Bd.returns] at h; cases h)
    refine ⟨_, _, ?_, hrun, hended, _, _, rfl, ?_, ⟨_, rfl⟩, hW, hsame.mono (by decide) (by decide)⟩
    · show Steps p.tables e below (s₁.setTop (mkF m 2 #[.val (.ref a1), .val (.int (0 : Int32)), .val (.int p3), .val (.int p4), .val (.int p5), .val (.int p6), .unset, .unset, .unset] [(.int p3), (.int (0 : Int32))])) _
      refine XS.icmpYes X0.here hx rfl (pc0 := 2) (pc' := 12) rfl (hb hby d3_2) rfl (tlt h1).1 (by decide) (by decide) ?_
      show Steps p.tables e below (s₁.setTop (mkF m 12 #[.val (.ref a1), .val (.int (0 : Int32)), .val (.int p3), .val (.int p4), .val (.int p5), .val (.int p6), .unset, .unset, .unset] [])) _
      refine XS.aloadN X0.here hx rfl (hb hby d3_12) rfl rfl ?_
      show Steps p.tables e below (s₁.setTop (mkF m 13 #[.val (.ref a1), .val (.int (0 : Int32)), .val (.int p3), .val (.int p4), .val (.int p5), .val (.int p6), .unset, .unset, .unset] [(.ref a1)])) _
      refine XS.iloadN X0.here hx rfl (hb hby d3_13) rfl ?_
      show Steps p.tables e below (s₁.setTop (mkF m 14 #[.val (.ref a1), .val (.int (0 : Int32)), .val (.int p3), .val (.int p4), .val (.int p5), .val (.int p6), .unset, .unset, .unset] [(.int (0 : Int32)), (.ref a1)])) _
      refine X0.baloadBytes hx (j := (0 : Int32)) (v := (.int c0)) (by rw [e0]; exact Ar2.1) (State.isArrayOf_alike hZ.alike Ar2.2.1) Ar2.2.2 hin2 hat2 (g := (mkF m 14 #[.val (.ref a1), .val (.int (0 : Int32)), .val (.int p3), .val (.int p4), .val (.int p5), .val (.int p6), .unset, .unset, .unset] [(.int (0 : Int32)), (.ref a1)])) rfl rfl (hb hby d3_14) _ ?_
      show Steps p.tables e below (s₁.setTop (mkF m 15 #[.val (.ref a1), .val (.int (0 : Int32)), .val (.int p3), .val (.int p4), .val (.int p5), .val (.int p6), .unset, .unset, .unset] [(.int c0)])) _
      refine XS.iload X0.here hx rfl (hb hby d3_15) rfl ?_
      show Steps p.tables e below (s₁.setTop (mkF m 17 #[.val (.ref a1), .val (.int (0 : Int32)), .val (.int p3), .val (.int p4), .val (.int p5), .val (.int p6), .unset, .unset, .unset] [(.int p6), (.int c0)])) _
      refine st4 _ ?_
      show Steps p.tables e below (s₁.setTop (mkF m 25 #[.val (.ref a1), .val (.int (0 : Int32)), .val (.int p3), .val (.int p4), .val (.int p5), .val (.int p6), .unset, .unset, .unset] [(.int (if c0 = p6 then (1 : Int32) else (0 : Int32)))])) _
      exact retN X0 hx (t := .boolean) Bd.returns (by simp) (hb hby d3_25) hr
    · show Qok0 Z a1 p3 p4 p5 p6 k1 c0 c1 c2 c3 c4 c5 c6 c7 c8 h0 n0 _ s₁.heap _
      rw [e0]
      have hf : fok0 p3 p4 p5 p6 c0 c1 c2 c3 c4 c5 c6 c7 c8 = ((if c0 = p6 then (1 : Int32) else (0 : Int32)) &&& 1) := by simp only [fok0, if_pos h1]
      exact ⟨by rw [hf], N0, rfl⟩
  · refine own_step (B := s₁.setTop (mkF m 9 #[.val (.ref a1), .val (.int (0 : Int32)), .val (.int p3), .val (.int p4), .val (.int p5), .val (.int p6), .unset, .unset, .unset] [(.int (p3 + p4)), (.int (0 : Int32))])) (fun t k => ?_) ?_
    · show Steps p.tables e below (s₁.setTop (mkF m 2 #[.val (.ref a1), .val (.int (0 : Int32)), .val (.int p3), .val (.int p4), .val (.int p5), .val (.int p6), .unset, .unset, .unset] [(.int p3), (.int (0 : Int32))])) _
      refine XS.icmpNo X0.here hx rfl (hb hby d3_2) rfl (flt h1).1 ?_
      show Steps p.tables e below (s₁.setTop (mkF m 5 #[.val (.ref a1), .val (.int (0 : Int32)), .val (.int p3), .val (.int p4), .val (.int p5), .val (.int p6), .unset, .unset, .unset] [])) _
      refine XS.iloadN X0.here hx rfl (hb hby d3_5) rfl ?_
      show Steps p.tables e below (s₁.setTop (mkF m 6 #[.val (.ref a1), .val (.int (0 : Int32)), .val (.int p3), .val (.int p4), .val (.int p5), .val (.int p6), .unset, .unset, .unset] [(.int (0 : Int32))])) _
      refine XS.iloadN X0.here hx rfl (hb hby d3_6) rfl ?_
      show Steps p.tables e below (s₁.setTop (mkF m 7 #[.val (.ref a1), .val (.int (0 : Int32)), .val (.int p3), .val (.int p4), .val (.int p5), .val (.int p6), .unset, .unset, .unset] [(.int p3), (.int (0 : Int32))])) _
      refine XS.iloadN X0.here hx rfl (hb hby d3_7) rfl ?_
      show Steps p.tables e below (s₁.setTop (mkF m 8 #[.val (.ref a1), .val (.int (0 : Int32)), .val (.int p3), .val (.int p4), .val (.int p5), .val (.int p6), .unset, .unset, .unset] [(.int p4), (.int p3), (.int (0 : Int32))])) _
      refine XS.iadd X0.here hx rfl (hb hby d3_8) rfl ?_
      exact k
    by_cases h5 : (0 : Int32) < (p3 + p4)
    · have st7 : ∀ t, Steps p.tables e below (s₁.setTop (mkF m 63 #[.val (.ref a1), .val (.int (0 : Int32)), .val (.int p3), .val (.int p4), .val (.int p5), .val (.int p6), .val (.int ((0 : Int32) - p3)), .val (.int ((XT.ushr p5 ((7 : Int32) * ((0 : Int32) - p3))) &&& (127 : Int32))), .unset] [(.int (fok0_0 p3 p4 p5 p6 c0 c1 c2 c3 c4 c5 c6 c7 c8))])) t → Steps p.tables e below (s₁.setTop (mkF m 49 #[.val (.ref a1), .val (.int (0 : Int32)), .val (.int p3), .val (.int p4), .val (.int p5), .val (.int p6), .val (.int ((0 : Int32) - p3)), .val (.int ((XT.ushr p5 ((7 : Int32) * ((0 : Int32) - p3))) &&& (127 : Int32))), .unset] [(.int (p4 - (1 : Int32))), (.int ((0 : Int32) - p3))])) t := by
        intro t k
        by_cases h6 : ((0 : Int32) - p3) < (p4 - (1 : Int32))
        · rw [show (fok0_0 p3 p4 p5 p6 c0 c1 c2 c3 c4 c5 c6 c7 c8) = (((XT.ushr p5 ((7 : Int32) * ((0 : Int32) - p3))) &&& (127 : Int32)) ||| (128 : Int32)) from if_pos h6] at k
          show Steps p.tables e below (s₁.setTop (mkF m 49 #[.val (.ref a1), .val (.int (0 : Int32)), .val (.int p3), .val (.int p4), .val (.int p5), .val (.int p6), .val (.int ((0 : Int32) - p3)), .val (.int ((XT.ushr p5 ((7 : Int32) * ((0 : Int32) - p3))) &&& (127 : Int32))), .unset] [(.int (p4 - (1 : Int32))), (.int ((0 : Int32) - p3))])) _
          refine XS.icmpNo X0.here hx rfl (hb hby d3_49) rfl (tlt h6).2.1 ?_
          show Steps p.tables e below (s₁.setTop (mkF m 52 #[.val (.ref a1), .val (.int (0 : Int32)), .val (.int p3), .val (.int p4), .val (.int p5), .val (.int p6), .val (.int ((0 : Int32) - p3)), .val (.int ((XT.ushr p5 ((7 : Int32) * ((0 : Int32) - p3))) &&& (127 : Int32))), .unset] [])) _
          refine XS.iload X0.here hx rfl (hb hby d3_52) rfl ?_
          show Steps p.tables e below (s₁.setTop (mkF m 54 #[.val (.ref a1), .val (.int (0 : Int32)), .val (.int p3), .val (.int p4), .val (.int p5), .val (.int p6), .val (.int ((0 : Int32) - p3)), .val (.int ((XT.ushr p5 ((7 : Int32) * ((0 : Int32) - p3))) &&& (127 : Int32))), .unset] [(.int ((XT.ushr p5 ((7 : Int32) * ((0 : Int32) - p3))) &&& (127 : Int32)))])) _
          refine XS.sipush X0.here hx rfl (hb hby d3_54) ?_
          show Steps p.tables e below (s₁.setTop (mkF m 57 #[.val (.ref a1), .val (.int (0 : Int32)), .val (.int p3), .val (.int p4), .val (.int p5), .val (.int p6), .val (.int ((0 : Int32) - p3)), .val (.int ((XT.ushr p5 ((7 : Int32) * ((0 : Int32) - p3))) &&& (127 : Int32))), .unset] [(.int (128 : Int32)), (.int ((XT.ushr p5 ((7 : Int32) * ((0 : Int32) - p3))) &&& (127 : Int32)))])) _
          refine XT.ior X0.here hx rfl (hb hby d3_57) rfl ?_
          show Steps p.tables e below (s₁.setTop (mkF m 58 #[.val (.ref a1), .val (.int (0 : Int32)), .val (.int p3), .val (.int p4), .val (.int p5), .val (.int p6), .val (.int ((0 : Int32) - p3)), .val (.int ((XT.ushr p5 ((7 : Int32) * ((0 : Int32) - p3))) &&& (127 : Int32))), .unset] [(.int (((XT.ushr p5 ((7 : Int32) * ((0 : Int32) - p3))) &&& (127 : Int32)) ||| (128 : Int32)))])) _
          refine XS.goto X0.here hx rfl (pc0 := 58) (pc' := 63) rfl (hb hby d3_58) (by decide) (by decide) ?_
          exact k
        · rw [show (fok0_0 p3 p4 p5 p6 c0 c1 c2 c3 c4 c5 c6 c7 c8) = ((XT.ushr p5 ((7 : Int32) * ((0 : Int32) - p3))) &&& (127 : Int32)) from if_neg h6] at k
          show Steps p.tables e below (s₁.setTop (mkF m 49 #[.val (.ref a1), .val (.int (0 : Int32)), .val (.int p3), .val (.int p4), .val (.int p5), .val (.int p6), .val (.int ((0 : Int32) - p3)), .val (.int ((XT.ushr p5 ((7 : Int32) * ((0 : Int32) - p3))) &&& (127 : Int32))), .unset] [(.int (p4 - (1 : Int32))), (.int ((0 : Int32) - p3))])) _
          refine XS.icmpYes X0.here hx rfl (pc0 := 49) (pc' := 61) rfl (hb hby d3_49) rfl (flt h6).2.1 (by decide) (by decide) ?_
          show Steps p.tables e below (s₁.setTop (mkF m 61 #[.val (.ref a1), .val (.int (0 : Int32)), .val (.int p3), .val (.int p4), .val (.int p5), .val (.int p6), .val (.int ((0 : Int32) - p3)), .val (.int ((XT.ushr p5 ((7 : Int32) * ((0 : Int32) - p3))) &&& (127 : Int32))), .unset] [])) _
          refine XS.iload X0.here hx rfl (hb hby d3_61) rfl ?_
          exact k
      obtain ⟨cl8, Ar8, -, S8, M8, H8, -⟩ := id A_a1
      have hin8 := inb_of (j := (0 : Int32)) S8 (by decide)
      have hat8 := H8.at hin8 (v := (.int c0)) (rfl)
      have st10 : ∀ t, Steps p.tables e below (s₁.setTop (mkF m 79 #[.val (.ref a1), .val (.int (0 : Int32)), .val (.int p3), .val (.int p4), .val (.int p5), .val (.int p6), .val (.int ((0 : Int32) - p3)), .val (.int ((XT.ushr p5 ((7 : Int32) * ((0 : Int32) - p3))) &&& (127 : Int32))), .val (.int (fok0_0 p3 p4 p5 p6 c0 c1 c2 c3 c4 c5 c6 c7 c8))] [(.int (fok0_1 p3 p4 p5 p6 c0 c1 c2 c3 c4 c5 c6 c7 c8))])) t → Steps p.tables e below (s₁.setTop (mkF m 71 #[.val (.ref a1), .val (.int (0 : Int32)), .val (.int p3), .val (.int p4), .val (.int p5), .val (.int p6), .val (.int ((0 : Int32) - p3)), .val (.int ((XT.ushr p5 ((7 : Int32) * ((0 : Int32) - p3))) &&& (127 : Int32))), .val (.int (fok0_0 p3 p4 p5 p6 c0 c1 c2 c3 c4 c5 c6 c7 c8))] [(.int (fok0_0 p3 p4 p5 p6 c0 c1 c2 c3 c4 c5 c6 c7 c8).toInt8.toInt32), (.int c0)])) t := by
        intro t k
        by_cases h9 : c0 = (fok0_0 p3 p4 p5 p6 c0 c1 c2 c3 c4 c5 c6 c7 c8).toInt8.toInt32
        · rw [show (fok0_1 p3 p4 p5 p6 c0 c1 c2 c3 c4 c5 c6 c7 c8) = (1 : Int32) from if_pos h9] at k
          show Steps p.tables e below (s₁.setTop (mkF m 71 #[.val (.ref a1), .val (.int (0 : Int32)), .val (.int p3), .val (.int p4), .val (.int p5), .val (.int p6), .val (.int ((0 : Int32) - p3)), .val (.int ((XT.ushr p5 ((7 : Int32) * ((0 : Int32) - p3))) &&& (127 : Int32))), .val (.int (fok0_0 p3 p4 p5 p6 c0 c1 c2 c3 c4 c5 c6 c7 c8))] [(.int (fok0_0 p3 p4 p5 p6 c0 c1 c2 c3 c4 c5 c6 c7 c8).toInt8.toInt32), (.int c0)])) _
          refine XS.icmpNo X0.here hx rfl (hb hby d3_71) rfl (teq h9).2 ?_
          show Steps p.tables e below (s₁.setTop (mkF m 74 #[.val (.ref a1), .val (.int (0 : Int32)), .val (.int p3), .val (.int p4), .val (.int p5), .val (.int p6), .val (.int ((0 : Int32) - p3)), .val (.int ((XT.ushr p5 ((7 : Int32) * ((0 : Int32) - p3))) &&& (127 : Int32))), .val (.int (fok0_0 p3 p4 p5 p6 c0 c1 c2 c3 c4 c5 c6 c7 c8))] [])) _
          refine XS.iconst X0.here hx rfl (hb hby d3_74) ?_
          show Steps p.tables e below (s₁.setTop (mkF m 75 #[.val (.ref a1), .val (.int (0 : Int32)), .val (.int p3), .val (.int p4), .val (.int p5), .val (.int p6), .val (.int ((0 : Int32) - p3)), .val (.int ((XT.ushr p5 ((7 : Int32) * ((0 : Int32) - p3))) &&& (127 : Int32))), .val (.int (fok0_0 p3 p4 p5 p6 c0 c1 c2 c3 c4 c5 c6 c7 c8))] [(.int (1 : Int32))])) _
          refine XS.goto X0.here hx rfl (pc0 := 75) (pc' := 79) rfl (hb hby d3_75) (by decide) (by decide) ?_
          exact k
        · rw [show (fok0_1 p3 p4 p5 p6 c0 c1 c2 c3 c4 c5 c6 c7 c8) = (0 : Int32) from if_neg h9] at k
          show Steps p.tables e below (s₁.setTop (mkF m 71 #[.val (.ref a1), .val (.int (0 : Int32)), .val (.int p3), .val (.int p4), .val (.int p5), .val (.int p6), .val (.int ((0 : Int32) - p3)), .val (.int ((XT.ushr p5 ((7 : Int32) * ((0 : Int32) - p3))) &&& (127 : Int32))), .val (.int (fok0_0 p3 p4 p5 p6 c0 c1 c2 c3 c4 c5 c6 c7 c8))] [(.int (fok0_0 p3 p4 p5 p6 c0 c1 c2 c3 c4 c5 c6 c7 c8).toInt8.toInt32), (.int c0)])) _
          refine XS.icmpYes X0.here hx rfl (pc0 := 71) (pc' := 78) rfl (hb hby d3_71) rfl (feq h9).2 (by decide) (by decide) ?_
          show Steps p.tables e below (s₁.setTop (mkF m 78 #[.val (.ref a1), .val (.int (0 : Int32)), .val (.int p3), .val (.int p4), .val (.int p5), .val (.int p6), .val (.int ((0 : Int32) - p3)), .val (.int ((XT.ushr p5 ((7 : Int32) * ((0 : Int32) - p3))) &&& (127 : Int32))), .val (.int (fok0_0 p3 p4 p5 p6 c0 c1 c2 c3 c4 c5 c6 c7 c8))] [])) _
          refine XS.iconst X0.here hx rfl (hb hby d3_78) ?_
          exact k
      obtain ⟨fs, hr, hrun, hended, hW, hsame⟩ := X0.leave (v := some (.int ((fok0_1 p3 p4 p5 p6 c0 c1 c2 c3 c4 c5 c6 c7 c8) &&& 1))) (fun h => by rw [Bd.returns] at h; cases h)
      refine ⟨_, _, ?_, hrun, hended, _, _, rfl, ?_, ⟨_, rfl⟩, hW, hsame.mono (by decide) (by decide)⟩
      · show Steps p.tables e below (s₁.setTop (mkF m 9 #[.val (.ref a1), .val (.int (0 : Int32)), .val (.int p3), .val (.int p4), .val (.int p5), .val (.int p6), .unset, .unset, .unset] [(.int (p3 + p4)), (.int (0 : Int32))])) _
        refine XS.icmpYes X0.here hx rfl (pc0 := 9) (pc' := 26) rfl (hb hby d3_9) rfl (tlt h5).1 (by decide) (by decide) ?_
        show Steps p.tables e below (s₁.setTop (mkF m 26 #[.val (.ref a1), .val (.int (0 : Int32)), .val (.int p3), .val (.int p4), .val (.int p5), .val (.int p6), .unset, .unset, .unset] [])) _
        refine XS.iloadN X0.here hx rfl (hb hby d3_26) rfl ?_
        show Steps p.tables e below (s₁.setTop (mkF m 27 #[.val (.ref a1), .val (.int (0 : Int32)), .val (.int p3), .val (.int p4), .val (.int p5), .val (.int p6), .unset, .unset, .unset] [(.int (0 : Int32))])) _
        refine XS.iloadN X0.here hx rfl (hb hby d3_27) rfl ?_
        show Steps p.tables e below (s₁.setTop (mkF m 28 #[.val (.ref a1), .val (.int (0 : Int32)), .val (.int p3), .val (.int p4), .val (.int p5), .val (.int p6), .unset, .unset, .unset] [(.int p3), (.int (0 : Int32))])) _
        refine XS.isub X0.here hx rfl (hb hby d3_28) rfl ?_
        show Steps p.tables e below (s₁.setTop (mkF m 29 #[.val (.ref a1), .val (.int (0 : Int32)), .val (.int p3), .val (.int p4), .val (.int p5), .val (.int p6), .unset, .unset, .unset] [(.int ((0 : Int32) - p3))])) _
        refine XS.istore X0.here hx rfl (hb hby d3_29) rfl (l' := #[.val (.ref a1), .val (.int (0 : Int32)), .val (.int p3), .val (.int p4), .val (.int p5), .val (.int p6), .val (.int ((0 : Int32) - p3)), .unset, .unset]) rfl ?_
        show Steps p.tables e below (s₁.setTop (mkF m 31 #[.val (.ref a1), .val (.int (0 : Int32)), .val (.int p3), .val (.int p4), .val (.int p5), .val (.int p6), .val (.int ((0 : Int32) - p3)), .unset, .unset] [])) _
        refine XS.iload X0.here hx rfl (hb hby d3_31) rfl ?_
        show Steps p.tables e below (s₁.setTop (mkF m 33 #[.val (.ref a1), .val (.int (0 : Int32)), .val (.int p3), .val (.int p4), .val (.int p5), .val (.int p6), .val (.int ((0 : Int32) - p3)), .unset, .unset] [(.int p5)])) _
        refine XS.bipush X0.here hx rfl (hb hby d3_33) ?_
        show Steps p.tables e below (s₁.setTop (mkF m 35 #[.val (.ref a1), .val (.int (0 : Int32)), .val (.int p3), .val (.int p4), .val (.int p5), .val (.int p6), .val (.int ((0 : Int32) - p3)), .unset, .unset] [(.int (7 : Int32)), (.int p5)])) _
        refine XS.iload X0.here hx rfl (hb hby d3_35) rfl ?_
        show Steps p.tables e below (s₁.setTop (mkF m 37 #[.val (.ref a1), .val (.int (0 : Int32)), .val (.int p3), .val (.int p4), .val (.int p5), .val (.int p6), .val (.int ((0 : Int32) - p3)), .unset, .unset] [(.int ((0 : Int32) - p3)), (.int (7 : Int32)), (.int p5)])) _
        refine XS.imul X0.here hx rfl (hb hby d3_37) rfl ?_
        show Steps p.tables e below (s₁.setTop (mkF m 38 #[.val (.ref a1), .val (.int (0 : Int32)), .val (.int p3), .val (.int p4), .val (.int p5), .val (.int p6), .val (.int ((0 : Int32) - p3)), .unset, .unset] [(.int ((7 : Int32) * ((0 : Int32) - p3))), (.int p5)])) _
        refine XT.iushr X0.here hx rfl (hb hby d3_38) rfl ?_
        show Steps p.tables e below (s₁.setTop (mkF m 39 #[.val (.ref a1), .val (.int (0 : Int32)), .val (.int p3), .val (.int p4), .val (.int p5), .val (.int p6), .val (.int ((0 : Int32) - p3)), .unset, .unset] [(.int (XT.ushr p5 ((7 : Int32) * ((0 : Int32) - p3))))])) _
        refine XS.bipush X0.here hx rfl (hb hby d3_39) ?_
        show Steps p.tables e below (s₁.setTop (mkF m 41 #[.val (.ref a1), .val (.int (0 : Int32)), .val (.int p3), .val (.int p4), .val (.int p5), .val (.int p6), .val (.int ((0 : Int32) - p3)), .unset, .unset] [(.int (127 : Int32)), (.int (XT.ushr p5 ((7 : Int32) * ((0 : Int32) - p3))))])) _
        refine XS.iand X0.here hx rfl (hb hby d3_41) rfl ?_
        show Steps p.tables e below (s₁.setTop (mkF m 42 #[.val (.ref a1), .val (.int (0 : Int32)), .val (.int p3), .val (.int p4), .val (.int p5), .val (.int p6), .val (.int ((0 : Int32) - p3)), .unset, .unset] [(.int ((XT.ushr p5 ((7 : Int32) * ((0 : Int32) - p3))) &&& (127 : Int32)))])) _
        refine XS.istore X0.here hx rfl (hb hby d3_42) rfl (l' := #[.val (.ref a1), .val (.int (0 : Int32)), .val (.int p3), .val (.int p4), .val (.int p5), .val (.int p6), .val (.int ((0 : Int32) - p3)), .val (.int ((XT.ushr p5 ((7 : Int32) * ((0 : Int32) - p3))) &&& (127 : Int32))), .unset]) rfl ?_
        show Steps p.tables e below (s₁.setTop (mkF m 44 #[.val (.ref a1), .val (.int (0 : Int32)), .val (.int p3), .val (.int p4), .val (.int p5), .val (.int p6), .val (.int ((0 : Int32) - p3)), .val (.int ((XT.ushr p5 ((7 : Int32) * ((0 : Int32) - p3))) &&& (127 : Int32))), .unset] [])) _
        refine XS.iload X0.here hx rfl (hb hby d3_44) rfl ?_
        show Steps p.tables e below (s₁.setTop (mkF m 46 #[.val (.ref a1), .val (.int (0 : Int32)), .val (.int p3), .val (.int p4), .val (.int p5), .val (.int p6), .val (.int ((0 : Int32) - p3)), .val (.int ((XT.ushr p5 ((7 : Int32) * ((0 : Int32) - p3))) &&& (127 : Int32))), .unset] [(.int ((0 : Int32) - p3))])) _
        refine XS.iloadN X0.here hx rfl (hb hby d3_46) rfl ?_
        show Steps p.tables e below (s₁.setTop (mkF m 47 #[.val (.ref a1), .val (.int (0 : Int32)), .val (.int p3), .val (.int p4), .val (.int p5), .val (.int p6), .val (.int ((0 : Int32) - p3)), .val (.int ((XT.ushr p5 ((7 : Int32) * ((0 : Int32) - p3))) &&& (127 : Int32))), .unset] [(.int p4), (.int ((0 : Int32) - p3))])) _
        refine XS.iconst X0.here hx rfl (hb hby d3_47) ?_
        show Steps p.tables e below (s₁.setTop (mkF m 48 #[.val (.ref a1), .val (.int (0 : Int32)), .val (.int p3), .val (.int p4), .val (.int p5), .val (.int p6), .val (.int ((0 : Int32) - p3)), .val (.int ((XT.ushr p5 ((7 : Int32) * ((0 : Int32) - p3))) &&& (127 : Int32))), .unset] [(.int (1 : Int32)), (.int p4), (.int ((0 : Int32) - p3))])) _
        refine XS.isub X0.here hx rfl (hb hby d3_48) rfl ?_
        show Steps p.tables e below (s₁.setTop (mkF m 49 #[.val (.ref a1), .val (.int (0 : Int32)), .val (.int p3), .val (.int p4), .val (.int p5), .val (.int p6), .val (.int ((0 : Int32) - p3)), .val (.int ((XT.ushr p5 ((7 : Int32) * ((0 : Int32) - p3))) &&& (127 : Int32))), .unset] [(.int (p4 - (1 : Int32))), (.int ((0 : Int32) - p3))])) _
        refine st7 _ ?_
        show Steps p.tables e below (s₁.setTop (mkF m 63 #[.val (.ref a1), .val (.int (0 : Int32)), .val (.int p3), .val (.int p4), .val (.int p5), .val (.int p6), .val (.int ((0 : Int32) - p3)), .val (.int ((XT.ushr p5 ((7 : Int32) * ((0 : Int32) - p3))) &&& (127 : Int32))), .unset] [(.int (fok0_0 p3 p4 p5 p6 c0 c1 c2 c3 c4 c5 c6 c7 c8))])) _
        refine XS.istore X0.here hx rfl (hb hby d3_63) rfl (l' := #[.val (.ref a1), .val (.int (0 : Int32)), .val (.int p3), .val (.int p4), .val (.int p5), .val (.int p6), .val (.int ((0 : Int32) - p3)), .val (.int ((XT.ushr p5 ((7 : Int32) * ((0 : Int32) - p3))) &&& (127 : Int32))), .val (.int (fok0_0 p3 p4 p5 p6 c0 c1 c2 c3 c4 c5 c6 c7 c8))]) rfl ?_
        show Steps p.tables e below (s₁.setTop (mkF m 65 #[.val (.ref a1), .val (.int (0 : Int32)), .val (.int p3), .val (.int p4), .val (.int p5), .val (.int p6), .val (.int ((0 : Int32) - p3)), .val (.int ((XT.ushr p5 ((7 : Int32) * ((0 : Int32) - p3))) &&& (127 : Int32))), .val (.int (fok0_0 p3 p4 p5 p6 c0 c1 c2 c3 c4 c5 c6 c7 c8))] [])) _
        refine XS.aloadN X0.here hx rfl (hb hby d3_65) rfl rfl ?_
        show Steps p.tables e below (s₁.setTop (mkF m 66 #[.val (.ref a1), .val (.int (0 : Int32)), .val (.int p3), .val (.int p4), .val (.int p5), .val (.int p6), .val (.int ((0 : Int32) - p3)), .val (.int ((XT.ushr p5 ((7 : Int32) * ((0 : Int32) - p3))) &&& (127 : Int32))), .val (.int (fok0_0 p3 p4 p5 p6 c0 c1 c2 c3 c4 c5 c6 c7 c8))] [(.ref a1)])) _
        refine XS.iloadN X0.here hx rfl (hb hby d3_66) rfl ?_
        show Steps p.tables e below (s₁.setTop (mkF m 67 #[.val (.ref a1), .val (.int (0 : Int32)), .val (.int p3), .val (.int p4), .val (.int p5), .val (.int p6), .val (.int ((0 : Int32) - p3)), .val (.int ((XT.ushr p5 ((7 : Int32) * ((0 : Int32) - p3))) &&& (127 : Int32))), .val (.int (fok0_0 p3 p4 p5 p6 c0 c1 c2 c3 c4 c5 c6 c7 c8))] [(.int (0 : Int32)), (.ref a1)])) _
        refine X0.baloadBytes hx (j := (0 : Int32)) (v := (.int c0)) (by rw [e0]; exact Ar8.1) (State.isArrayOf_alike hZ.alike Ar8.2.1) Ar8.2.2 hin8 hat8 (g := (mkF m 67 #[.val (.ref a1), .val (.int (0 : Int32)), .val (.int p3), .val (.int p4), .val (.int p5), .val (.int p6), .val (.int ((0 : Int32) - p3)), .val (.int ((XT.ushr p5 ((7 : Int32) * ((0 : Int32) - p3))) &&& (127 : Int32))), .val (.int (fok0_0 p3 p4 p5 p6 c0 c1 c2 c3 c4 c5 c6 c7 c8))] [(.int (0 : Int32)), (.ref a1)])) rfl rfl (hb hby d3_67) _ ?_
        show Steps p.tables e below (s₁.setTop (mkF m 68 #[.val (.ref a1), .val (.int (0 : Int32)), .val (.int p3), .val (.int p4), .val (.int p5), .val (.int p6), .val (.int ((0 : Int32) - p3)), .val (.int ((XT.ushr p5 ((7 : Int32) * ((0 : Int32) - p3))) &&& (127 : Int32))), .val (.int (fok0_0 p3 p4 p5 p6 c0 c1 c2 c3 c4 c5 c6 c7 c8))] [(.int c0)])) _
        refine XS.iload X0.here hx rfl (hb hby d3_68) rfl ?_
        show Steps p.tables e below (s₁.setTop (mkF m 70 #[.val (.ref a1), .val (.int (0 : Int32)), .val (.int p3), .val (.int p4), .val (.int p5), .val (.int p6), .val (.int ((0 : Int32) - p3)), .val (.int ((XT.ushr p5 ((7 : Int32) * ((0 : Int32) - p3))) &&& (127 : Int32))), .val (.int (fok0_0 p3 p4 p5 p6 c0 c1 c2 c3 c4 c5 c6 c7 c8))] [(.int (fok0_0 p3 p4 p5 p6 c0 c1 c2 c3 c4 c5 c6 c7 c8)), (.int c0)])) _
        refine XT.i2b X0.here hx rfl (hb hby d3_70) rfl ?_
        show Steps p.tables e below (s₁.setTop (mkF m 71 #[.val (.ref a1), .val (.int (0 : Int32)), .val (.int p3), .val (.int p4), .val (.int p5), .val (.int p6), .val (.int ((0 : Int32) - p3)), .val (.int ((XT.ushr p5 ((7 : Int32) * ((0 : Int32) - p3))) &&& (127 : Int32))), .val (.int (fok0_0 p3 p4 p5 p6 c0 c1 c2 c3 c4 c5 c6 c7 c8))] [(.int (fok0_0 p3 p4 p5 p6 c0 c1 c2 c3 c4 c5 c6 c7 c8).toInt8.toInt32), (.int c0)])) _
        refine st10 _ ?_
        show Steps p.tables e below (s₁.setTop (mkF m 79 #[.val (.ref a1), .val (.int (0 : Int32)), .val (.int p3), .val (.int p4), .val (.int p5), .val (.int p6), .val (.int ((0 : Int32) - p3)), .val (.int ((XT.ushr p5 ((7 : Int32) * ((0 : Int32) - p3))) &&& (127 : Int32))), .val (.int (fok0_0 p3 p4 p5 p6 c0 c1 c2 c3 c4 c5 c6 c7 c8))] [(.int (fok0_1 p3 p4 p5 p6 c0 c1 c2 c3 c4 c5 c6 c7 c8))])) _
        exact retN X0 hx (t := .boolean) Bd.returns (by simp) (hb hby d3_79) hr
      · show Qok0 Z a1 p3 p4 p5 p6 k1 c0 c1 c2 c3 c4 c5 c6 c7 c8 h0 n0 _ s₁.heap _
        rw [e0]
        have hf : fok0 p3 p4 p5 p6 c0 c1 c2 c3 c4 c5 c6 c7 c8 = ((fok0_1 p3 p4 p5 p6 c0 c1 c2 c3 c4 c5 c6 c7 c8) &&& 1) := by simp only [fok0, if_neg h1, if_pos h5]
        exact ⟨by rw [hf], N0, rfl⟩
    · obtain ⟨cl11, Ar11, -, S11, M11, H11, -⟩ := id A_a1
      have hin11 := inb_of (j := (0 : Int32)) S11 (by decide)
      have hat11 := H11.at hin11 (v := (.int c0)) (rfl)
      have st13 : ∀ t, Steps p.tables e below (s₁.setTop (mkF m 25 #[.val (.ref a1), .val (.int (0 : Int32)), .val (.int p3), .val (.int p4), .val (.int p5), .val (.int p6), .unset, .unset, .unset] [(.int (if c0 = p6 then (1 : Int32) else (0 : Int32)))])) t → Steps p.tables e below (s₁.setTop (mkF m 17 #[.val (.ref a1), .val (.int (0 : Int32)), .val (.int p3), .val (.int p4), .val (.int p5), .val (.int p6), .unset, .unset, .unset] [(.int p6), (.int c0)])) t := by
        intro t k
        by_cases h12 : c0 = p6
        · rw [show (if c0 = p6 then (1 : Int32) else (0 : Int32)) = (1 : Int32) from if_pos h12] at k
          show Steps p.tables e below (s₁.setTop (mkF m 17 #[.val (.ref a1), .val (.int (0 : Int32)), .val (.int p3), .val (.int p4), .val (.int p5), .val (.int p6), .unset, .unset, .unset] [(.int p6), (.int c0)])) _
          refine XS.icmpNo X0.here hx rfl (hb hby d3_17) rfl (teq h12).2 ?_
          show Steps p.tables e below (s₁.setTop (mkF m 20 #[.val (.ref a1), .val (.int (0 : Int32)), .val (.int p3), .val (.int p4), .val (.int p5), .val (.int p6), .unset, .unset, .unset] [])) _
          refine XS.iconst X0.here hx rfl (hb hby d3_20) ?_
          show Steps p.tables e below (s₁.setTop (mkF m 21 #[.val (.ref a1), .val (.int (0 : Int32)), .val (.int p3), .val (.int p4), .val (.int p5), .val (.int p6), .unset, .unset, .unset] [(.int (1 : Int32))])) _
          refine XS.goto X0.here hx rfl (pc0 := 21) (pc' := 25) rfl (hb hby d3_21) (by decide) (by decide) ?_
          exact k
        · rw [show (if c0 = p6 then (1 : Int32) else (0 : Int32)) = (0 : Int32) from if_neg h12] at k
          show Steps p.tables e below (s₁.setTop (mkF m 17 #[.val (.ref a1), .val (.int (0 : Int32)), .val (.int p3), .val (.int p4), .val (.int p5), .val (.int p6), .unset, .unset, .unset] [(.int p6), (.int c0)])) _
          refine XS.icmpYes X0.here hx rfl (pc0 := 17) (pc' := 24) rfl (hb hby d3_17) rfl (feq h12).2 (by decide) (by decide) ?_
          show Steps p.tables e below (s₁.setTop (mkF m 24 #[.val (.ref a1), .val (.int (0 : Int32)), .val (.int p3), .val (.int p4), .val (.int p5), .val (.int p6), .unset, .unset, .unset] [])) _
          refine XS.iconst X0.here hx rfl (hb hby d3_24) ?_
          exact k
      obtain ⟨fs, hr, hrun, hended, hW, hsame⟩ := X0.leave (v := some (.int ((if c0 = p6 then (1 : Int32) else (0 : Int32)) &&& 1))) (fun h => by rw [Bd.returns] at h; cases h)
      refine ⟨_, _, ?_, hrun, hended, _, _, rfl, ?_, ⟨_, rfl⟩, hW, hsame.mono (by decide) (by decide)⟩
      · show Steps p.tables e below (s₁.setTop (mkF m 9 #[.val (.ref a1), .val (.int (0 : Int32)), .val (.int p3), .val (.int p4), .val (.int p5), .val (.int p6), .unset, .unset, .unset] [(.int (p3 + p4)), (.int (0 : Int32))])) _
        refine XS.icmpNo X0.here hx rfl (hb hby d3_9) rfl (flt h5).1 ?_
        show Steps p.tables e below (s₁.setTop (mkF m 12 #[.val (.ref a1), .val (.int (0 : Int32)), .val (.int p3), .val (.int p4), .val (.int p5), .val (.int p6), .unset, .unset, .unset] [])) _
        refine XS.aloadN X0.here hx rfl (hb hby d3_12) rfl rfl ?_
        show Steps p.tables e below (s₁.setTop (mkF m 13 #[.val (.ref a1), .val (.int (0 : Int32)), .val (.int p3), .val (.int p4), .val (.int p5), .val (.int p6), .unset, .unset, .unset] [(.ref a1)])) _
        refine XS.iloadN X0.here hx rfl (hb hby d3_13) rfl ?_
        show Steps p.tables e below (s₁.setTop (mkF m 14 #[.val (.ref a1), .val (.int (0 : Int32)), .val (.int p3), .val (.int p4), .val (.int p5), .val (.int p6), .unset, .unset, .unset] [(.int (0 : Int32)), (.ref a1)])) _
        refine X0.baloadBytes hx (j := (0 : Int32)) (v := (.int c0)) (by rw [e0]; exact Ar11.1) (State.isArrayOf_alike hZ.alike Ar11.2.1) Ar11.2.2 hin11 hat11 (g := (mkF m 14 #[.val (.ref a1), .val (.int (0 : Int32)), .val (.int p3), .val (.int p4), .val (.int p5), .val (.int p6), .unset, .unset, .unset] [(.int (0 : Int32)), (.ref a1)])) rfl rfl (hb hby d3_14) _ ?_
        show Steps p.tables e below (s₁.setTop (mkF m 15 #[.val (.ref a1), .val (.int (0 : Int32)), .val (.int p3), .val (.int p4), .val (.int p5), .val (.int p6), .unset, .unset, .unset] [(.int c0)])) _
        refine XS.iload X0.here hx rfl (hb hby d3_15) rfl ?_
        show Steps p.tables e below (s₁.setTop (mkF m 17 #[.val (.ref a1), .val (.int (0 : Int32)), .val (.int p3), .val (.int p4), .val (.int p5), .val (.int p6), .unset, .unset, .unset] [(.int p6), (.int c0)])) _
        refine st13 _ ?_
        show Steps p.tables e below (s₁.setTop (mkF m 25 #[.val (.ref a1), .val (.int (0 : Int32)), .val (.int p3), .val (.int p4), .val (.int p5), .val (.int p6), .unset, .unset, .unset] [(.int (if c0 = p6 then (1 : Int32) else (0 : Int32)))])) _
        exact retN X0 hx (t := .boolean) Bd.returns (by simp) (hb hby d3_25) hr
      · show Qok0 Z a1 p3 p4 p5 p6 k1 c0 c1 c2 c3 c4 c5 c6 c7 c8 h0 n0 _ s₁.heap _
        rw [e0]
        have hf : fok0 p3 p4 p5 p6 c0 c1 c2 c3 c4 c5 c6 c7 c8 = ((if c0 = p6 then (1 : Int32) else (0 : Int32)) &&& 1) := by simp only [fok0, if_neg h1, if_neg h5]
        exact ⟨by rw [hf], N0, rfl⟩
theorem pn_ok1 : plainName "com/example/stratum/stratum/index/PostingsPutVarIntPinLaw" = true := by first | (simp [plainName, overriddenIn]; done) | decide +kernel
theorem ef_ok1 (m : MethodId) (a1 : Addr) (p3 : Int32) (p4 : Int32) (p5 : Int32) (p6 : Int32) : entryFrame m #[(.ref a1), (.int (1 : Int32)), (.int p3), (.int p4), (.int p5), (.int p6)] 9 = mkF m 0 #[.val (.ref a1), .val (.int (1 : Int32)), .val (.int p3), .val (.int p4), .val (.int p5), .val (.int p6), .unset, .unset, .unset] [] := by first | (simp [entryFrame, mkF, argsToLocals, Value.category]; done) | rfl
def Qok1 (Z : State) (a1 : Addr) (p3 : Int32) (p4 : Int32) (p5 : Int32) (p6 : Int32) (k1 : ClassId) (c0 : Int32) (c1 : Int32) (c2 : Int32) (c3 : Int32) (c4 : Int32) (c5 : Int32) (c6 : Int32) (c7 : Int32) (c8 : Int32) (h0 : Heap) (n0 : Nat) (v : Option Value) (h : Heap) (L : List Loc) : Prop := v = some (.int (fok1 p3 p4 p5 p6 c0 c1 c2 c3 c4 c5 c6 c7 c8)) ∧ Fr n0 L ∧ h = h0
set_option maxRecDepth 65536 in
set_option maxHeartbeats 40000000 in
theorem rmok1 (l : Launch) (Z : State) (a0 : Array Value) (hw : ∀ d ∈ tables_1, d.before a0 Z = true) (ws : List Jvm.Cond) (a1 : Addr) (p3 : Int32) (p4 : Int32) (p5 : Int32) (p6 : Int32) (k1 : ClassId) (c0 : Int32) (c1 : Int32) (c2 : Int32) (c3 : Int32) (c4 : Int32) (c5 : Int32) (c6 : Int32) (c7 : Int32) (c8 : Int32) (h0 : Heap) (n0 : Nat) (Z0 : n0 ≤ h0.size) (A_a1 : Arv Z h0 a1 k1 .byte (9 : Int32) [(.int c0), (.int c1), (.int c2), (.int c3), (.int c4), (.int c5), (.int c6), (.int c7), (.int c8)] (.int (0 : Int32))) :
    MetFree l (⟨"com/example/stratum/stratum/index/PostingsPutVarIntPinLaw", "ok", "([BIIIIB)Z"⟩ : MethodName) (head1 (Jvm.Cond.code (⟨"com/example/stratum/stratum/index/PostingsPutVarIntPinLaw", "ok", "([BIIIIB)Z"⟩ : MethodName) method_4_code 9 (some .boolean) :: ws) ({ frames := 0, cells := 0, slots := 0, locals := 0 } : Room)) (fun a U => a = #[(.ref a1), (.int (1 : Int32)), (.int p3), (.int p4), (.int p5), (.int p6)] ∧ Z.Warmed39 U.vm ∧ U.heap = h0) (fun _ _ _ _ _ => True) (fun _ U o U' => ∃ v L, o = .returned v ∧ Qok1 Z a1 p3 p4 p5 p6 k1 c0 c1 c2 c3 c4 c5 c6 c7 c8 h0 n0 v U'.heap L ∧ FrameEnd U o U' L ({ frames := 0, cells := 0, slots := 0, locals := 0 } : Room).cells ({ frames := 0, cells := 0, slots := 0, locals := 0 } : Room).slots) := by
  refine MetFree.of_bodySF (plainFor_of_name pn_ok1) hisR ?_
  intro p e s m args below meth c s₁ Bd hml0 hP hK
  obtain ⟨rfl, hZ, hh⟩ := hP
  have hx := Bd.exec
  have hby := Bd.bytes
  have hml : c.maxLocals = 9 := hml0
  have hown : s.vm.findClass "com/example/stratum/stratum/index/PostingsPutVarIntPinLaw" = some m.cls := findClass_of_methodNamed Bd.named
  have hnm := (name_of_methodNamed Bd.named Bd.method).1
  have X0 : Stand p l e ({ frames := 0, cells := 0, slots := 0, locals := 0 } : Room) s m #[(.ref a1), (.int (1 : Int32)), (.int p3), (.int p4), (.int p5), (.int p6)] below meth c s₁ [] 0 0 := Stand.of_body Bd
  have e0 : s₁.heap = h0 := by rw [← hh, Bd.state]; rfl
  have N0 := Fr.nil n0
  have pre0 : ∀ t, Steps p.tables e below (s₁.setTop (mkF m 0 #[.val (.ref a1), .val (.int (1 : Int32)), .val (.int p3), .val (.int p4), .val (.int p5), .val (.int p6), .unset, .unset, .unset] [])) t → Steps p.tables e below (s₁.setTop (entryFrame m #[(.ref a1), (.int (1 : Int32)), (.int p3), (.int p4), (.int p5), (.int p6)] 9)) t := fun t k => castTop (ef_ok1 m a1 p3 p4 p5 p6) k
  refine own_step (Q := fun o U' => ∃ v L, o = .returned v ∧ Qok1 Z a1 p3 p4 p5 p6 k1 c0 c1 c2 c3 c4 c5 c6 c7 c8 h0 n0 v U'.heap L ∧ FrameEnd s o U' L ({ frames := 0, cells := 0, slots := 0, locals := 0 } : Room).cells ({ frames := 0, cells := 0, slots := 0, locals := 0 } : Room).slots) pre0 ?_
  refine own_step (B := s₁.setTop (mkF m 2 #[.val (.ref a1), .val (.int (1 : Int32)), .val (.int p3), .val (.int p4), .val (.int p5), .val (.int p6), .unset, .unset, .unset] [(.int p3), (.int (1 : Int32))])) (fun t k => ?_) ?_
  · show Steps p.tables e below (s₁.setTop (mkF m 0 #[.val (.ref a1), .val (.int (1 : Int32)), .val (.int p3), .val (.int p4), .val (.int p5), .val (.int p6), .unset, .unset, .unset] [])) _
    refine XS.iloadN X0.here hx rfl (hb hby d3_0) rfl ?_
    show Steps p.tables e below (s₁.setTop (mkF m 1 #[.val (.ref a1), .val (.int (1 : Int32)), .val (.int p3), .val (.int p4), .val (.int p5), .val (.int p6), .unset, .unset, .unset] [(.int (1 : Int32))])) _
    refine XS.iloadN X0.here hx rfl (hb hby d3_1) rfl ?_
    exact k
  by_cases h1 : (1 : Int32) < p3
  · obtain ⟨cl2, Ar2, -, S2, M2, H2, -⟩ := id A_a1
    have hin2 := inb_of (j := (1 : Int32)) S2 (by decide)
    have hat2 := H2.at hin2 (v := (.int c1)) (rfl)
    have st4 : ∀ t, Steps p.tables e below (s₁.setTop (mkF m 25 #[.val (.ref a1), .val (.int (1 : Int32)), .val (.int p3), .val (.int p4), .val (.int p5), .val (.int p6), .unset, .unset, .unset] [(.int (if c1 = p6 then (1 : Int32) else (0 : Int32)))])) t → Steps p.tables e below (s₁.setTop (mkF m 17 #[.val (.ref a1), .val (.int (1 : Int32)), .val (.int p3), .val (.int p4), .val (.int p5), .val (.int p6), .unset, .unset, .unset] [(.int p6), (.int c1)])) t := by
      intro t k
      by_cases h3 : c1 = p6
      · rw [show (if c1 = p6 then (1 : Int32) else (0 : Int32)) = (1 : Int32) from if_pos h3] at k
        show Steps p.tables e below (s₁.setTop (mkF m 17 #[.val (.ref a1), .val (.int (1 : Int32)), .val (.int p3), .val (.int p4), .val (.int p5), .val (.int p6), .unset, .unset, .unset] [(.int p6), (.int c1)])) _
        refine XS.icmpNo X0.here hx rfl (hb hby d3_17) rfl (teq h3).2 ?_
        show Steps p.tables e below (s₁.setTop (mkF m 20 #[.val (.ref a1), .val (.int (1 : Int32)), .val (.int p3), .val (.int p4), .val (.int p5), .val (.int p6), .unset, .unset, .unset] [])) _
        refine XS.iconst X0.here hx rfl (hb hby d3_20) ?_
        show Steps p.tables e below (s₁.setTop (mkF m 21 #[.val (.ref a1), .val (.int (1 : Int32)), .val (.int p3), .val (.int p4), .val (.int p5), .val (.int p6), .unset, .unset, .unset] [(.int (1 : Int32))])) _
        refine XS.goto X0.here hx rfl (pc0 := 21) (pc' := 25) rfl (hb hby d3_21) (by decide) (by decide) ?_
        exact k
      · rw [show (if c1 = p6 then (1 : Int32) else (0 : Int32)) = (0 : Int32) from if_neg h3] at k
        show Steps p.tables e below (s₁.setTop (mkF m 17 #[.val (.ref a1), .val (.int (1 : Int32)), .val (.int p3), .val (.int p4), .val (.int p5), .val (.int p6), .unset, .unset, .unset] [(.int p6), (.int c1)])) _
        refine XS.icmpYes X0.here hx rfl (pc0 := 17) (pc' := 24) rfl (hb hby d3_17) rfl (feq h3).2 (by decide) (by decide) ?_
        show Steps p.tables e below (s₁.setTop (mkF m 24 #[.val (.ref a1), .val (.int (1 : Int32)), .val (.int p3), .val (.int p4), .val (.int p5), .val (.int p6), .unset, .unset, .unset] [])) _
        refine XS.iconst X0.here hx rfl (hb hby d3_24) ?_
        exact k
    obtain ⟨fs, hr, hrun, hended, hW, hsame⟩ := X0.leave (v := some (.int ((if c1 = p6 then (1 : Int32) else (0 : Int32)) &&& 1))) (fun h => by rw [Bd.returns] at h; cases h)
    refine ⟨_, _, ?_, hrun, hended, _, _, rfl, ?_, ⟨_, rfl⟩, hW, hsame.mono (by decide) (by decide)⟩
    · show Steps p.tables e below (s₁.setTop (mkF m 2 #[.val (.ref a1), .val (.int (1 : Int32)), .val (.int p3), .val (.int p4), .val (.int p5), .val (.int p6), .unset, .unset, .unset] [(.int p3), (.int (1 : Int32))])) _
      refine XS.icmpYes X0.here hx rfl (pc0 := 2) (pc' := 12) rfl (hb hby d3_2) rfl (tlt h1).1 (by decide) (by decide) ?_
      show Steps p.tables e below (s₁.setTop (mkF m 12 #[.val (.ref a1), .val (.int (1 : Int32)), .val (.int p3), .val (.int p4), .val (.int p5), .val (.int p6), .unset, .unset, .unset] [])) _
      refine XS.aloadN X0.here hx rfl (hb hby d3_12) rfl rfl ?_
      show Steps p.tables e below (s₁.setTop (mkF m 13 #[.val (.ref a1), .val (.int (1 : Int32)), .val (.int p3), .val (.int p4), .val (.int p5), .val (.int p6), .unset, .unset, .unset] [(.ref a1)])) _
      refine XS.iloadN X0.here hx rfl (hb hby d3_13) rfl ?_
      show Steps p.tables e below (s₁.setTop (mkF m 14 #[.val (.ref a1), .val (.int (1 : Int32)), .val (.int p3), .val (.int p4), .val (.int p5), .val (.int p6), .unset, .unset, .unset] [(.int (1 : Int32)), (.ref a1)])) _
      refine X0.baloadBytes hx (j := (1 : Int32)) (v := (.int c1)) (by rw [e0]; exact Ar2.1) (State.isArrayOf_alike hZ.alike Ar2.2.1) Ar2.2.2 hin2 hat2 (g := (mkF m 14 #[.val (.ref a1), .val (.int (1 : Int32)), .val (.int p3), .val (.int p4), .val (.int p5), .val (.int p6), .unset, .unset, .unset] [(.int (1 : Int32)), (.ref a1)])) rfl rfl (hb hby d3_14) _ ?_
      show Steps p.tables e below (s₁.setTop (mkF m 15 #[.val (.ref a1), .val (.int (1 : Int32)), .val (.int p3), .val (.int p4), .val (.int p5), .val (.int p6), .unset, .unset, .unset] [(.int c1)])) _
      refine XS.iload X0.here hx rfl (hb hby d3_15) rfl ?_
      show Steps p.tables e below (s₁.setTop (mkF m 17 #[.val (.ref a1), .val (.int (1 : Int32)), .val (.int p3), .val (.int p4), .val (.int p5), .val (.int p6), .unset, .unset, .unset] [(.int p6), (.int c1)])) _
      refine st4 _ ?_
      show Steps p.tables e below (s₁.setTop (mkF m 25 #[.val (.ref a1), .val (.int (1 : Int32)), .val (.int p3), .val (.int p4), .val (.int p5), .val (.int p6), .unset, .unset, .unset] [(.int (if c1 = p6 then (1 : Int32) else (0 : Int32)))])) _
      exact retN X0 hx (t := .boolean) Bd.returns (by simp) (hb hby d3_25) hr
    · show Qok1 Z a1 p3 p4 p5 p6 k1 c0 c1 c2 c3 c4 c5 c6 c7 c8 h0 n0 _ s₁.heap _
      rw [e0]
      have hf : fok1 p3 p4 p5 p6 c0 c1 c2 c3 c4 c5 c6 c7 c8 = ((if c1 = p6 then (1 : Int32) else (0 : Int32)) &&& 1) := by simp only [fok1, if_pos h1]
      exact ⟨by rw [hf], N0, rfl⟩
  · refine own_step (B := s₁.setTop (mkF m 9 #[.val (.ref a1), .val (.int (1 : Int32)), .val (.int p3), .val (.int p4), .val (.int p5), .val (.int p6), .unset, .unset, .unset] [(.int (p3 + p4)), (.int (1 : Int32))])) (fun t k => ?_) ?_
    · show Steps p.tables e below (s₁.setTop (mkF m 2 #[.val (.ref a1), .val (.int (1 : Int32)), .val (.int p3), .val (.int p4), .val (.int p5), .val (.int p6), .unset, .unset, .unset] [(.int p3), (.int (1 : Int32))])) _
      refine XS.icmpNo X0.here hx rfl (hb hby d3_2) rfl (flt h1).1 ?_
      show Steps p.tables e below (s₁.setTop (mkF m 5 #[.val (.ref a1), .val (.int (1 : Int32)), .val (.int p3), .val (.int p4), .val (.int p5), .val (.int p6), .unset, .unset, .unset] [])) _
      refine XS.iloadN X0.here hx rfl (hb hby d3_5) rfl ?_
      show Steps p.tables e below (s₁.setTop (mkF m 6 #[.val (.ref a1), .val (.int (1 : Int32)), .val (.int p3), .val (.int p4), .val (.int p5), .val (.int p6), .unset, .unset, .unset] [(.int (1 : Int32))])) _
      refine XS.iloadN X0.here hx rfl (hb hby d3_6) rfl ?_
      show Steps p.tables e below (s₁.setTop (mkF m 7 #[.val (.ref a1), .val (.int (1 : Int32)), .val (.int p3), .val (.int p4), .val (.int p5), .val (.int p6), .unset, .unset, .unset] [(.int p3), (.int (1 : Int32))])) _
      refine XS.iloadN X0.here hx rfl (hb hby d3_7) rfl ?_
      show Steps p.tables e below (s₁.setTop (mkF m 8 #[.val (.ref a1), .val (.int (1 : Int32)), .val (.int p3), .val (.int p4), .val (.int p5), .val (.int p6), .unset, .unset, .unset] [(.int p4), (.int p3), (.int (1 : Int32))])) _
      refine XS.iadd X0.here hx rfl (hb hby d3_8) rfl ?_
      exact k
    by_cases h5 : (1 : Int32) < (p3 + p4)
    · have st7 : ∀ t, Steps p.tables e below (s₁.setTop (mkF m 63 #[.val (.ref a1), .val (.int (1 : Int32)), .val (.int p3), .val (.int p4), .val (.int p5), .val (.int p6), .val (.int ((1 : Int32) - p3)), .val (.int ((XT.ushr p5 ((7 : Int32) * ((1 : Int32) - p3))) &&& (127 : Int32))), .unset] [(.int (fok1_0 p3 p4 p5 p6 c0 c1 c2 c3 c4 c5 c6 c7 c8))])) t → Steps p.tables e below (s₁.setTop (mkF m 49 #[.val (.ref a1), .val (.int (1 : Int32)), .val (.int p3), .val (.int p4), .val (.int p5), .val (.int p6), .val (.int ((1 : Int32) - p3)), .val (.int ((XT.ushr p5 ((7 : Int32) * ((1 : Int32) - p3))) &&& (127 : Int32))), .unset] [(.int (p4 - (1 : Int32))), (.int ((1 : Int32) - p3))])) t := by
        intro t k
        by_cases h6 : ((1 : Int32) - p3) < (p4 - (1 : Int32))
        · rw [show (fok1_0 p3 p4 p5 p6 c0 c1 c2 c3 c4 c5 c6 c7 c8) = (((XT.ushr p5 ((7 : Int32) * ((1 : Int32) - p3))) &&& (127 : Int32)) ||| (128 : Int32)) from if_pos h6] at k
          show Steps p.tables e below (s₁.setTop (mkF m 49 #[.val (.ref a1), .val (.int (1 : Int32)), .val (.int p3), .val (.int p4), .val (.int p5), .val (.int p6), .val (.int ((1 : Int32) - p3)), .val (.int ((XT.ushr p5 ((7 : Int32) * ((1 : Int32) - p3))) &&& (127 : Int32))), .unset] [(.int (p4 - (1 : Int32))), (.int ((1 : Int32) - p3))])) _
          refine XS.icmpNo X0.here hx rfl (hb hby d3_49) rfl (tlt h6).2.1 ?_
          show Steps p.tables e below (s₁.setTop (mkF m 52 #[.val (.ref a1), .val (.int (1 : Int32)), .val (.int p3), .val (.int p4), .val (.int p5), .val (.int p6), .val (.int ((1 : Int32) - p3)), .val (.int ((XT.ushr p5 ((7 : Int32) * ((1 : Int32) - p3))) &&& (127 : Int32))), .unset] [])) _
          refine XS.iload X0.here hx rfl (hb hby d3_52) rfl ?_
          show Steps p.tables e below (s₁.setTop (mkF m 54 #[.val (.ref a1), .val (.int (1 : Int32)), .val (.int p3), .val (.int p4), .val (.int p5), .val (.int p6), .val (.int ((1 : Int32) - p3)), .val (.int ((XT.ushr p5 ((7 : Int32) * ((1 : Int32) - p3))) &&& (127 : Int32))), .unset] [(.int ((XT.ushr p5 ((7 : Int32) * ((1 : Int32) - p3))) &&& (127 : Int32)))])) _
          refine XS.sipush X0.here hx rfl (hb hby d3_54) ?_
          show Steps p.tables e below (s₁.setTop (mkF m 57 #[.val (.ref a1), .val (.int (1 : Int32)), .val (.int p3), .val (.int p4), .val (.int p5), .val (.int p6), .val (.int ((1 : Int32) - p3)), .val (.int ((XT.ushr p5 ((7 : Int32) * ((1 : Int32) - p3))) &&& (127 : Int32))), .unset] [(.int (128 : Int32)), (.int ((XT.ushr p5 ((7 : Int32) * ((1 : Int32) - p3))) &&& (127 : Int32)))])) _
          refine XT.ior X0.here hx rfl (hb hby d3_57) rfl ?_
          show Steps p.tables e below (s₁.setTop (mkF m 58 #[.val (.ref a1), .val (.int (1 : Int32)), .val (.int p3), .val (.int p4), .val (.int p5), .val (.int p6), .val (.int ((1 : Int32) - p3)), .val (.int ((XT.ushr p5 ((7 : Int32) * ((1 : Int32) - p3))) &&& (127 : Int32))), .unset] [(.int (((XT.ushr p5 ((7 : Int32) * ((1 : Int32) - p3))) &&& (127 : Int32)) ||| (128 : Int32)))])) _
          refine XS.goto X0.here hx rfl (pc0 := 58) (pc' := 63) rfl (hb hby d3_58) (by decide) (by decide) ?_
          exact k
        · rw [show (fok1_0 p3 p4 p5 p6 c0 c1 c2 c3 c4 c5 c6 c7 c8) = ((XT.ushr p5 ((7 : Int32) * ((1 : Int32) - p3))) &&& (127 : Int32)) from if_neg h6] at k
          show Steps p.tables e below (s₁.setTop (mkF m 49 #[.val (.ref a1), .val (.int (1 : Int32)), .val (.int p3), .val (.int p4), .val (.int p5), .val (.int p6), .val (.int ((1 : Int32) - p3)), .val (.int ((XT.ushr p5 ((7 : Int32) * ((1 : Int32) - p3))) &&& (127 : Int32))), .unset] [(.int (p4 - (1 : Int32))), (.int ((1 : Int32) - p3))])) _
          refine XS.icmpYes X0.here hx rfl (pc0 := 49) (pc' := 61) rfl (hb hby d3_49) rfl (flt h6).2.1 (by decide) (by decide) ?_
          show Steps p.tables e below (s₁.setTop (mkF m 61 #[.val (.ref a1), .val (.int (1 : Int32)), .val (.int p3), .val (.int p4), .val (.int p5), .val (.int p6), .val (.int ((1 : Int32) - p3)), .val (.int ((XT.ushr p5 ((7 : Int32) * ((1 : Int32) - p3))) &&& (127 : Int32))), .unset] [])) _
          refine XS.iload X0.here hx rfl (hb hby d3_61) rfl ?_
          exact k
      obtain ⟨cl8, Ar8, -, S8, M8, H8, -⟩ := id A_a1
      have hin8 := inb_of (j := (1 : Int32)) S8 (by decide)
      have hat8 := H8.at hin8 (v := (.int c1)) (rfl)
      have st10 : ∀ t, Steps p.tables e below (s₁.setTop (mkF m 79 #[.val (.ref a1), .val (.int (1 : Int32)), .val (.int p3), .val (.int p4), .val (.int p5), .val (.int p6), .val (.int ((1 : Int32) - p3)), .val (.int ((XT.ushr p5 ((7 : Int32) * ((1 : Int32) - p3))) &&& (127 : Int32))), .val (.int (fok1_0 p3 p4 p5 p6 c0 c1 c2 c3 c4 c5 c6 c7 c8))] [(.int (fok1_1 p3 p4 p5 p6 c0 c1 c2 c3 c4 c5 c6 c7 c8))])) t → Steps p.tables e below (s₁.setTop (mkF m 71 #[.val (.ref a1), .val (.int (1 : Int32)), .val (.int p3), .val (.int p4), .val (.int p5), .val (.int p6), .val (.int ((1 : Int32) - p3)), .val (.int ((XT.ushr p5 ((7 : Int32) * ((1 : Int32) - p3))) &&& (127 : Int32))), .val (.int (fok1_0 p3 p4 p5 p6 c0 c1 c2 c3 c4 c5 c6 c7 c8))] [(.int (fok1_0 p3 p4 p5 p6 c0 c1 c2 c3 c4 c5 c6 c7 c8).toInt8.toInt32), (.int c1)])) t := by
        intro t k
        by_cases h9 : c1 = (fok1_0 p3 p4 p5 p6 c0 c1 c2 c3 c4 c5 c6 c7 c8).toInt8.toInt32
        · rw [show (fok1_1 p3 p4 p5 p6 c0 c1 c2 c3 c4 c5 c6 c7 c8) = (1 : Int32) from if_pos h9] at k
          show Steps p.tables e below (s₁.setTop (mkF m 71 #[.val (.ref a1), .val (.int (1 : Int32)), .val (.int p3), .val (.int p4), .val (.int p5), .val (.int p6), .val (.int ((1 : Int32) - p3)), .val (.int ((XT.ushr p5 ((7 : Int32) * ((1 : Int32) - p3))) &&& (127 : Int32))), .val (.int (fok1_0 p3 p4 p5 p6 c0 c1 c2 c3 c4 c5 c6 c7 c8))] [(.int (fok1_0 p3 p4 p5 p6 c0 c1 c2 c3 c4 c5 c6 c7 c8).toInt8.toInt32), (.int c1)])) _
          refine XS.icmpNo X0.here hx rfl (hb hby d3_71) rfl (teq h9).2 ?_
          show Steps p.tables e below (s₁.setTop (mkF m 74 #[.val (.ref a1), .val (.int (1 : Int32)), .val (.int p3), .val (.int p4), .val (.int p5), .val (.int p6), .val (.int ((1 : Int32) - p3)), .val (.int ((XT.ushr p5 ((7 : Int32) * ((1 : Int32) - p3))) &&& (127 : Int32))), .val (.int (fok1_0 p3 p4 p5 p6 c0 c1 c2 c3 c4 c5 c6 c7 c8))] [])) _
          refine XS.iconst X0.here hx rfl (hb hby d3_74) ?_
          show Steps p.tables e below (s₁.setTop (mkF m 75 #[.val (.ref a1), .val (.int (1 : Int32)), .val (.int p3), .val (.int p4), .val (.int p5), .val (.int p6), .val (.int ((1 : Int32) - p3)), .val (.int ((XT.ushr p5 ((7 : Int32) * ((1 : Int32) - p3))) &&& (127 : Int32))), .val (.int (fok1_0 p3 p4 p5 p6 c0 c1 c2 c3 c4 c5 c6 c7 c8))] [(.int (1 : Int32))])) _
          refine XS.goto X0.here hx rfl (pc0 := 75) (pc' := 79) rfl (hb hby d3_75) (by decide) (by decide) ?_
          exact k
        · rw [show (fok1_1 p3 p4 p5 p6 c0 c1 c2 c3 c4 c5 c6 c7 c8) = (0 : Int32) from if_neg h9] at k
          show Steps p.tables e below (s₁.setTop (mkF m 71 #[.val (.ref a1), .val (.int (1 : Int32)), .val (.int p3), .val (.int p4), .val (.int p5), .val (.int p6), .val (.int ((1 : Int32) - p3)), .val (.int ((XT.ushr p5 ((7 : Int32) * ((1 : Int32) - p3))) &&& (127 : Int32))), .val (.int (fok1_0 p3 p4 p5 p6 c0 c1 c2 c3 c4 c5 c6 c7 c8))] [(.int (fok1_0 p3 p4 p5 p6 c0 c1 c2 c3 c4 c5 c6 c7 c8).toInt8.toInt32), (.int c1)])) _
          refine XS.icmpYes X0.here hx rfl (pc0 := 71) (pc' := 78) rfl (hb hby d3_71) rfl (feq h9).2 (by decide) (by decide) ?_
          show Steps p.tables e below (s₁.setTop (mkF m 78 #[.val (.ref a1), .val (.int (1 : Int32)), .val (.int p3), .val (.int p4), .val (.int p5), .val (.int p6), .val (.int ((1 : Int32) - p3)), .val (.int ((XT.ushr p5 ((7 : Int32) * ((1 : Int32) - p3))) &&& (127 : Int32))), .val (.int (fok1_0 p3 p4 p5 p6 c0 c1 c2 c3 c4 c5 c6 c7 c8))] [])) _
          refine XS.iconst X0.here hx rfl (hb hby d3_78) ?_
          exact k
      obtain ⟨fs, hr, hrun, hended, hW, hsame⟩ := X0.leave (v := some (.int ((fok1_1 p3 p4 p5 p6 c0 c1 c2 c3 c4 c5 c6 c7 c8) &&& 1))) (fun h => by rw [Bd.returns] at h; cases h)
      refine ⟨_, _, ?_, hrun, hended, _, _, rfl, ?_, ⟨_, rfl⟩, hW, hsame.mono (by decide) (by decide)⟩
      · show Steps p.tables e below (s₁.setTop (mkF m 9 #[.val (.ref a1), .val (.int (1 : Int32)), .val (.int p3), .val (.int p4), .val (.int p5), .val (.int p6), .unset, .unset, .unset] [(.int (p3 + p4)), (.int (1 : Int32))])) _
        refine XS.icmpYes X0.here hx rfl (pc0 := 9) (pc' := 26) rfl (hb hby d3_9) rfl (tlt h5).1 (by decide) (by decide) ?_
        show Steps p.tables e below (s₁.setTop (mkF m 26 #[.val (.ref a1), .val (.int (1 : Int32)), .val (.int p3), .val (.int p4), .val (.int p5), .val (.int p6), .unset, .unset, .unset] [])) _
        refine XS.iloadN X0.here hx rfl (hb hby d3_26) rfl ?_
        show Steps p.tables e below (s₁.setTop (mkF m 27 #[.val (.ref a1), .val (.int (1 : Int32)), .val (.int p3), .val (.int p4), .val (.int p5), .val (.int p6), .unset, .unset, .unset] [(.int (1 : Int32))])) _
        refine XS.iloadN X0.here hx rfl (hb hby d3_27) rfl ?_
        show Steps p.tables e below (s₁.setTop (mkF m 28 #[.val (.ref a1), .val (.int (1 : Int32)), .val (.int p3), .val (.int p4), .val (.int p5), .val (.int p6), .unset, .unset, .unset] [(.int p3), (.int (1 : Int32))])) _
        refine XS.isub X0.here hx rfl (hb hby d3_28) rfl ?_
        show Steps p.tables e below (s₁.setTop (mkF m 29 #[.val (.ref a1), .val (.int (1 : Int32)), .val (.int p3), .val (.int p4), .val (.int p5), .val (.int p6), .unset, .unset, .unset] [(.int ((1 : Int32) - p3))])) _
        refine XS.istore X0.here hx rfl (hb hby d3_29) rfl (l' := #[.val (.ref a1), .val (.int (1 : Int32)), .val (.int p3), .val (.int p4), .val (.int p5), .val (.int p6), .val (.int ((1 : Int32) - p3)), .unset, .unset]) rfl ?_
        show Steps p.tables e below (s₁.setTop (mkF m 31 #[.val (.ref a1), .val (.int (1 : Int32)), .val (.int p3), .val (.int p4), .val (.int p5), .val (.int p6), .val (.int ((1 : Int32) - p3)), .unset, .unset] [])) _
        refine XS.iload X0.here hx rfl (hb hby d3_31) rfl ?_
        show Steps p.tables e below (s₁.setTop (mkF m 33 #[.val (.ref a1), .val (.int (1 : Int32)), .val (.int p3), .val (.int p4), .val (.int p5), .val (.int p6), .val (.int ((1 : Int32) - p3)), .unset, .unset] [(.int p5)])) _
        refine XS.bipush X0.here hx rfl (hb hby d3_33) ?_
        show Steps p.tables e below (s₁.setTop (mkF m 35 #[.val (.ref a1), .val (.int (1 : Int32)), .val (.int p3), .val (.int p4), .val (.int p5), .val (.int p6), .val (.int ((1 : Int32) - p3)), .unset, .unset] [(.int (7 : Int32)), (.int p5)])) _
        refine XS.iload X0.here hx rfl (hb hby d3_35) rfl ?_
        show Steps p.tables e below (s₁.setTop (mkF m 37 #[.val (.ref a1), .val (.int (1 : Int32)), .val (.int p3), .val (.int p4), .val (.int p5), .val (.int p6), .val (.int ((1 : Int32) - p3)), .unset, .unset] [(.int ((1 : Int32) - p3)), (.int (7 : Int32)), (.int p5)])) _
        refine XS.imul X0.here hx rfl (hb hby d3_37) rfl ?_
        show Steps p.tables e below (s₁.setTop (mkF m 38 #[.val (.ref a1), .val (.int (1 : Int32)), .val (.int p3), .val (.int p4), .val (.int p5), .val (.int p6), .val (.int ((1 : Int32) - p3)), .unset, .unset] [(.int ((7 : Int32) * ((1 : Int32) - p3))), (.int p5)])) _
        refine XT.iushr X0.here hx rfl (hb hby d3_38) rfl ?_
        show Steps p.tables e below (s₁.setTop (mkF m 39 #[.val (.ref a1), .val (.int (1 : Int32)), .val (.int p3), .val (.int p4), .val (.int p5), .val (.int p6), .val (.int ((1 : Int32) - p3)), .unset, .unset] [(.int (XT.ushr p5 ((7 : Int32) * ((1 : Int32) - p3))))])) _
        refine XS.bipush X0.here hx rfl (hb hby d3_39) ?_
        show Steps p.tables e below (s₁.setTop (mkF m 41 #[.val (.ref a1), .val (.int (1 : Int32)), .val (.int p3), .val (.int p4), .val (.int p5), .val (.int p6), .val (.int ((1 : Int32) - p3)), .unset, .unset] [(.int (127 : Int32)), (.int (XT.ushr p5 ((7 : Int32) * ((1 : Int32) - p3))))])) _
        refine XS.iand X0.here hx rfl (hb hby d3_41) rfl ?_
        show Steps p.tables e below (s₁.setTop (mkF m 42 #[.val (.ref a1), .val (.int (1 : Int32)), .val (.int p3), .val (.int p4), .val (.int p5), .val (.int p6), .val (.int ((1 : Int32) - p3)), .unset, .unset] [(.int ((XT.ushr p5 ((7 : Int32) * ((1 : Int32) - p3))) &&& (127 : Int32)))])) _
        refine XS.istore X0.here hx rfl (hb hby d3_42) rfl (l' := #[.val (.ref a1), .val (.int (1 : Int32)), .val (.int p3), .val (.int p4), .val (.int p5), .val (.int p6), .val (.int ((1 : Int32) - p3)), .val (.int ((XT.ushr p5 ((7 : Int32) * ((1 : Int32) - p3))) &&& (127 : Int32))), .unset]) rfl ?_
        show Steps p.tables e below (s₁.setTop (mkF m 44 #[.val (.ref a1), .val (.int (1 : Int32)), .val (.int p3), .val (.int p4), .val (.int p5), .val (.int p6), .val (.int ((1 : Int32) - p3)), .val (.int ((XT.ushr p5 ((7 : Int32) * ((1 : Int32) - p3))) &&& (127 : Int32))), .unset] [])) _
        refine XS.iload X0.here hx rfl (hb hby d3_44) rfl ?_
        show Steps p.tables e below (s₁.setTop (mkF m 46 #[.val (.ref a1), .val (.int (1 : Int32)), .val (.int p3), .val (.int p4), .val (.int p5), .val (.int p6), .val (.int ((1 : Int32) - p3)), .val (.int ((XT.ushr p5 ((7 : Int32) * ((1 : Int32) - p3))) &&& (127 : Int32))), .unset] [(.int ((1 : Int32) - p3))])) _
        refine XS.iloadN X0.here hx rfl (hb hby d3_46) rfl ?_
        show Steps p.tables e below (s₁.setTop (mkF m 47 #[.val (.ref a1), .val (.int (1 : Int32)), .val (.int p3), .val (.int p4), .val (.int p5), .val (.int p6), .val (.int ((1 : Int32) - p3)), .val (.int ((XT.ushr p5 ((7 : Int32) * ((1 : Int32) - p3))) &&& (127 : Int32))), .unset] [(.int p4), (.int ((1 : Int32) - p3))])) _
        refine XS.iconst X0.here hx rfl (hb hby d3_47) ?_
        show Steps p.tables e below (s₁.setTop (mkF m 48 #[.val (.ref a1), .val (.int (1 : Int32)), .val (.int p3), .val (.int p4), .val (.int p5), .val (.int p6), .val (.int ((1 : Int32) - p3)), .val (.int ((XT.ushr p5 ((7 : Int32) * ((1 : Int32) - p3))) &&& (127 : Int32))), .unset] [(.int (1 : Int32)), (.int p4), (.int ((1 : Int32) - p3))])) _
        refine XS.isub X0.here hx rfl (hb hby d3_48) rfl ?_
        show Steps p.tables e below (s₁.setTop (mkF m 49 #[.val (.ref a1), .val (.int (1 : Int32)), .val (.int p3), .val (.int p4), .val (.int p5), .val (.int p6), .val (.int ((1 : Int32) - p3)), .val (.int ((XT.ushr p5 ((7 : Int32) * ((1 : Int32) - p3))) &&& (127 : Int32))), .unset] [(.int (p4 - (1 : Int32))), (.int ((1 : Int32) - p3))])) _
        refine st7 _ ?_
        show Steps p.tables e below (s₁.setTop (mkF m 63 #[.val (.ref a1), .val (.int (1 : Int32)), .val (.int p3), .val (.int p4), .val (.int p5), .val (.int p6), .val (.int ((1 : Int32) - p3)), .val (.int ((XT.ushr p5 ((7 : Int32) * ((1 : Int32) - p3))) &&& (127 : Int32))), .unset] [(.int (fok1_0 p3 p4 p5 p6 c0 c1 c2 c3 c4 c5 c6 c7 c8))])) _
        refine XS.istore X0.here hx rfl (hb hby d3_63) rfl (l' := #[.val (.ref a1), .val (.int (1 : Int32)), .val (.int p3), .val (.int p4), .val (.int p5), .val (.int p6), .val (.int ((1 : Int32) - p3)), .val (.int ((XT.ushr p5 ((7 : Int32) * ((1 : Int32) - p3))) &&& (127 : Int32))), .val (.int (fok1_0 p3 p4 p5 p6 c0 c1 c2 c3 c4 c5 c6 c7 c8))]) rfl ?_
        show Steps p.tables e below (s₁.setTop (mkF m 65 #[.val (.ref a1), .val (.int (1 : Int32)), .val (.int p3), .val (.int p4), .val (.int p5), .val (.int p6), .val (.int ((1 : Int32) - p3)), .val (.int ((XT.ushr p5 ((7 : Int32) * ((1 : Int32) - p3))) &&& (127 : Int32))), .val (.int (fok1_0 p3 p4 p5 p6 c0 c1 c2 c3 c4 c5 c6 c7 c8))] [])) _
        refine XS.aloadN X0.here hx rfl (hb hby d3_65) rfl rfl ?_
        show Steps p.tables e below (s₁.setTop (mkF m 66 #[.val (.ref a1), .val (.int (1 : Int32)), .val (.int p3), .val (.int p4), .val (.int p5), .val (.int p6), .val (.int ((1 : Int32) - p3)), .val (.int ((XT.ushr p5 ((7 : Int32) * ((1 : Int32) - p3))) &&& (127 : Int32))), .val (.int (fok1_0 p3 p4 p5 p6 c0 c1 c2 c3 c4 c5 c6 c7 c8))] [(.ref a1)])) _
        refine XS.iloadN X0.here hx rfl (hb hby d3_66) rfl ?_
        show Steps p.tables e below (s₁.setTop (mkF m 67 #[.val (.ref a1), .val (.int (1 : Int32)), .val (.int p3), .val (.int p4), .val (.int p5), .val (.int p6), .val (.int ((1 : Int32) - p3)), .val (.int ((XT.ushr p5 ((7 : Int32) * ((1 : Int32) - p3))) &&& (127 : Int32))), .val (.int (fok1_0 p3 p4 p5 p6 c0 c1 c2 c3 c4 c5 c6 c7 c8))] [(.int (1 : Int32)), (.ref a1)])) _
        refine X0.baloadBytes hx (j := (1 : Int32)) (v := (.int c1)) (by rw [e0]; exact Ar8.1) (State.isArrayOf_alike hZ.alike Ar8.2.1) Ar8.2.2 hin8 hat8 (g := (mkF m 67 #[.val (.ref a1), .val (.int (1 : Int32)), .val (.int p3), .val (.int p4), .val (.int p5), .val (.int p6), .val (.int ((1 : Int32) - p3)), .val (.int ((XT.ushr p5 ((7 : Int32) * ((1 : Int32) - p3))) &&& (127 : Int32))), .val (.int (fok1_0 p3 p4 p5 p6 c0 c1 c2 c3 c4 c5 c6 c7 c8))] [(.int (1 : Int32)), (.ref a1)])) rfl rfl (hb hby d3_67) _ ?_
        show Steps p.tables e below (s₁.setTop (mkF m 68 #[.val (.ref a1), .val (.int (1 : Int32)), .val (.int p3), .val (.int p4), .val (.int p5), .val (.int p6), .val (.int ((1 : Int32) - p3)), .val (.int ((XT.ushr p5 ((7 : Int32) * ((1 : Int32) - p3))) &&& (127 : Int32))), .val (.int (fok1_0 p3 p4 p5 p6 c0 c1 c2 c3 c4 c5 c6 c7 c8))] [(.int c1)])) _
        refine XS.iload X0.here hx rfl (hb hby d3_68) rfl ?_
        show Steps p.tables e below (s₁.setTop (mkF m 70 #[.val (.ref a1), .val (.int (1 : Int32)), .val (.int p3), .val (.int p4), .val (.int p5), .val (.int p6), .val (.int ((1 : Int32) - p3)), .val (.int ((XT.ushr p5 ((7 : Int32) * ((1 : Int32) - p3))) &&& (127 : Int32))), .val (.int (fok1_0 p3 p4 p5 p6 c0 c1 c2 c3 c4 c5 c6 c7 c8))] [(.int (fok1_0 p3 p4 p5 p6 c0 c1 c2 c3 c4 c5 c6 c7 c8)), (.int c1)])) _
        refine XT.i2b X0.here hx rfl (hb hby d3_70) rfl ?_
        show Steps p.tables e below (s₁.setTop (mkF m 71 #[.val (.ref a1), .val (.int (1 : Int32)), .val (.int p3), .val (.int p4), .val (.int p5), .val (.int p6), .val (.int ((1 : Int32) - p3)), .val (.int ((XT.ushr p5 ((7 : Int32) * ((1 : Int32) - p3))) &&& (127 : Int32))), .val (.int (fok1_0 p3 p4 p5 p6 c0 c1 c2 c3 c4 c5 c6 c7 c8))] [(.int (fok1_0 p3 p4 p5 p6 c0 c1 c2 c3 c4 c5 c6 c7 c8).toInt8.toInt32), (.int c1)])) _
        refine st10 _ ?_
        show Steps p.tables e below (s₁.setTop (mkF m 79 #[.val (.ref a1), .val (.int (1 : Int32)), .val (.int p3), .val (.int p4), .val (.int p5), .val (.int p6), .val (.int ((1 : Int32) - p3)), .val (.int ((XT.ushr p5 ((7 : Int32) * ((1 : Int32) - p3))) &&& (127 : Int32))), .val (.int (fok1_0 p3 p4 p5 p6 c0 c1 c2 c3 c4 c5 c6 c7 c8))] [(.int (fok1_1 p3 p4 p5 p6 c0 c1 c2 c3 c4 c5 c6 c7 c8))])) _
        exact retN X0 hx (t := .boolean) Bd.returns (by simp) (hb hby d3_79) hr
      · show Qok1 Z a1 p3 p4 p5 p6 k1 c0 c1 c2 c3 c4 c5 c6 c7 c8 h0 n0 _ s₁.heap _
        rw [e0]
        have hf : fok1 p3 p4 p5 p6 c0 c1 c2 c3 c4 c5 c6 c7 c8 = ((fok1_1 p3 p4 p5 p6 c0 c1 c2 c3 c4 c5 c6 c7 c8) &&& 1) := by simp only [fok1, if_neg h1, if_pos h5]
        exact ⟨by rw [hf], N0, rfl⟩
    · obtain ⟨cl11, Ar11, -, S11, M11, H11, -⟩ := id A_a1
      have hin11 := inb_of (j := (1 : Int32)) S11 (by decide)
      have hat11 := H11.at hin11 (v := (.int c1)) (rfl)
      have st13 : ∀ t, Steps p.tables e below (s₁.setTop (mkF m 25 #[.val (.ref a1), .val (.int (1 : Int32)), .val (.int p3), .val (.int p4), .val (.int p5), .val (.int p6), .unset, .unset, .unset] [(.int (if c1 = p6 then (1 : Int32) else (0 : Int32)))])) t → Steps p.tables e below (s₁.setTop (mkF m 17 #[.val (.ref a1), .val (.int (1 : Int32)), .val (.int p3), .val (.int p4), .val (.int p5), .val (.int p6), .unset, .unset, .unset] [(.int p6), (.int c1)])) t := by
        intro t k
        by_cases h12 : c1 = p6
        · rw [show (if c1 = p6 then (1 : Int32) else (0 : Int32)) = (1 : Int32) from if_pos h12] at k
          show Steps p.tables e below (s₁.setTop (mkF m 17 #[.val (.ref a1), .val (.int (1 : Int32)), .val (.int p3), .val (.int p4), .val (.int p5), .val (.int p6), .unset, .unset, .unset] [(.int p6), (.int c1)])) _
          refine XS.icmpNo X0.here hx rfl (hb hby d3_17) rfl (teq h12).2 ?_
          show Steps p.tables e below (s₁.setTop (mkF m 20 #[.val (.ref a1), .val (.int (1 : Int32)), .val (.int p3), .val (.int p4), .val (.int p5), .val (.int p6), .unset, .unset, .unset] [])) _
          refine XS.iconst X0.here hx rfl (hb hby d3_20) ?_
          show Steps p.tables e below (s₁.setTop (mkF m 21 #[.val (.ref a1), .val (.int (1 : Int32)), .val (.int p3), .val (.int p4), .val (.int p5), .val (.int p6), .unset, .unset, .unset] [(.int (1 : Int32))])) _
          refine XS.goto X0.here hx rfl (pc0 := 21) (pc' := 25) rfl (hb hby d3_21) (by decide) (by decide) ?_
          exact k
        · rw [show (if c1 = p6 then (1 : Int32) else (0 : Int32)) = (0 : Int32) from if_neg h12] at k
          show Steps p.tables e below (s₁.setTop (mkF m 17 #[.val (.ref a1), .val (.int (1 : Int32)), .val (.int p3), .val (.int p4), .val (.int p5), .val (.int p6), .unset, .unset, .unset] [(.int p6), (.int c1)])) _
          refine XS.icmpYes X0.here hx rfl (pc0 := 17) (pc' := 24) rfl (hb hby d3_17) rfl (feq h12).2 (by decide) (by decide) ?_
          show Steps p.tables e below (s₁.setTop (mkF m 24 #[.val (.ref a1), .val (.int (1 : Int32)), .val (.int p3), .val (.int p4), .val (.int p5), .val (.int p6), .unset, .unset, .unset] [])) _
          refine XS.iconst X0.here hx rfl (hb hby d3_24) ?_
          exact k
      obtain ⟨fs, hr, hrun, hended, hW, hsame⟩ := X0.leave (v := some (.int ((if c1 = p6 then (1 : Int32) else (0 : Int32)) &&& 1))) (fun h => by rw [Bd.returns] at h; cases h)
      refine ⟨_, _, ?_, hrun, hended, _, _, rfl, ?_, ⟨_, rfl⟩, hW, hsame.mono (by decide) (by decide)⟩
      · show Steps p.tables e below (s₁.setTop (mkF m 9 #[.val (.ref a1), .val (.int (1 : Int32)), .val (.int p3), .val (.int p4), .val (.int p5), .val (.int p6), .unset, .unset, .unset] [(.int (p3 + p4)), (.int (1 : Int32))])) _
        refine XS.icmpNo X0.here hx rfl (hb hby d3_9) rfl (flt h5).1 ?_
        show Steps p.tables e below (s₁.setTop (mkF m 12 #[.val (.ref a1), .val (.int (1 : Int32)), .val (.int p3), .val (.int p4), .val (.int p5), .val (.int p6), .unset, .unset, .unset] [])) _
        refine XS.aloadN X0.here hx rfl (hb hby d3_12) rfl rfl ?_
        show Steps p.tables e below (s₁.setTop (mkF m 13 #[.val (.ref a1), .val (.int (1 : Int32)), .val (.int p3), .val (.int p4), .val (.int p5), .val (.int p6), .unset, .unset, .unset] [(.ref a1)])) _
        refine XS.iloadN X0.here hx rfl (hb hby d3_13) rfl ?_
        show Steps p.tables e below (s₁.setTop (mkF m 14 #[.val (.ref a1), .val (.int (1 : Int32)), .val (.int p3), .val (.int p4), .val (.int p5), .val (.int p6), .unset, .unset, .unset] [(.int (1 : Int32)), (.ref a1)])) _
        refine X0.baloadBytes hx (j := (1 : Int32)) (v := (.int c1)) (by rw [e0]; exact Ar11.1) (State.isArrayOf_alike hZ.alike Ar11.2.1) Ar11.2.2 hin11 hat11 (g := (mkF m 14 #[.val (.ref a1), .val (.int (1 : Int32)), .val (.int p3), .val (.int p4), .val (.int p5), .val (.int p6), .unset, .unset, .unset] [(.int (1 : Int32)), (.ref a1)])) rfl rfl (hb hby d3_14) _ ?_
        show Steps p.tables e below (s₁.setTop (mkF m 15 #[.val (.ref a1), .val (.int (1 : Int32)), .val (.int p3), .val (.int p4), .val (.int p5), .val (.int p6), .unset, .unset, .unset] [(.int c1)])) _
        refine XS.iload X0.here hx rfl (hb hby d3_15) rfl ?_
        show Steps p.tables e below (s₁.setTop (mkF m 17 #[.val (.ref a1), .val (.int (1 : Int32)), .val (.int p3), .val (.int p4), .val (.int p5), .val (.int p6), .unset, .unset, .unset] [(.int p6), (.int c1)])) _
        refine st13 _ ?_
        show Steps p.tables e below (s₁.setTop (mkF m 25 #[.val (.ref a1), .val (.int (1 : Int32)), .val (.int p3), .val (.int p4), .val (.int p5), .val (.int p6), .unset, .unset, .unset] [(.int (if c1 = p6 then (1 : Int32) else (0 : Int32)))])) _
        exact retN X0 hx (t := .boolean) Bd.returns (by simp) (hb hby d3_25) hr
      · show Qok1 Z a1 p3 p4 p5 p6 k1 c0 c1 c2 c3 c4 c5 c6 c7 c8 h0 n0 _ s₁.heap _
        rw [e0]
        have hf : fok1 p3 p4 p5 p6 c0 c1 c2 c3 c4 c5 c6 c7 c8 = ((if c1 = p6 then (1 : Int32) else (0 : Int32)) &&& 1) := by simp only [fok1, if_neg h1, if_neg h5]
        exact ⟨by rw [hf], N0, rfl⟩
theorem pn_ok2 : plainName "com/example/stratum/stratum/index/PostingsPutVarIntPinLaw" = true := by first | (simp [plainName, overriddenIn]; done) | decide +kernel
theorem ef_ok2 (m : MethodId) (a1 : Addr) (p3 : Int32) (p4 : Int32) (p5 : Int32) (p6 : Int32) : entryFrame m #[(.ref a1), (.int (2 : Int32)), (.int p3), (.int p4), (.int p5), (.int p6)] 9 = mkF m 0 #[.val (.ref a1), .val (.int (2 : Int32)), .val (.int p3), .val (.int p4), .val (.int p5), .val (.int p6), .unset, .unset, .unset] [] := by first | (simp [entryFrame, mkF, argsToLocals, Value.category]; done) | rfl
def Qok2 (Z : State) (a1 : Addr) (p3 : Int32) (p4 : Int32) (p5 : Int32) (p6 : Int32) (k1 : ClassId) (c0 : Int32) (c1 : Int32) (c2 : Int32) (c3 : Int32) (c4 : Int32) (c5 : Int32) (c6 : Int32) (c7 : Int32) (c8 : Int32) (h0 : Heap) (n0 : Nat) (v : Option Value) (h : Heap) (L : List Loc) : Prop := v = some (.int (fok2 p3 p4 p5 p6 c0 c1 c2 c3 c4 c5 c6 c7 c8)) ∧ Fr n0 L ∧ h = h0
set_option maxRecDepth 65536 in
set_option maxHeartbeats 40000000 in
theorem rmok2 (l : Launch) (Z : State) (a0 : Array Value) (hw : ∀ d ∈ tables_1, d.before a0 Z = true) (ws : List Jvm.Cond) (a1 : Addr) (p3 : Int32) (p4 : Int32) (p5 : Int32) (p6 : Int32) (k1 : ClassId) (c0 : Int32) (c1 : Int32) (c2 : Int32) (c3 : Int32) (c4 : Int32) (c5 : Int32) (c6 : Int32) (c7 : Int32) (c8 : Int32) (h0 : Heap) (n0 : Nat) (Z0 : n0 ≤ h0.size) (A_a1 : Arv Z h0 a1 k1 .byte (9 : Int32) [(.int c0), (.int c1), (.int c2), (.int c3), (.int c4), (.int c5), (.int c6), (.int c7), (.int c8)] (.int (0 : Int32))) :
    MetFree l (⟨"com/example/stratum/stratum/index/PostingsPutVarIntPinLaw", "ok", "([BIIIIB)Z"⟩ : MethodName) (head1 (Jvm.Cond.code (⟨"com/example/stratum/stratum/index/PostingsPutVarIntPinLaw", "ok", "([BIIIIB)Z"⟩ : MethodName) method_4_code 9 (some .boolean) :: ws) ({ frames := 0, cells := 0, slots := 0, locals := 0 } : Room)) (fun a U => a = #[(.ref a1), (.int (2 : Int32)), (.int p3), (.int p4), (.int p5), (.int p6)] ∧ Z.Warmed39 U.vm ∧ U.heap = h0) (fun _ _ _ _ _ => True) (fun _ U o U' => ∃ v L, o = .returned v ∧ Qok2 Z a1 p3 p4 p5 p6 k1 c0 c1 c2 c3 c4 c5 c6 c7 c8 h0 n0 v U'.heap L ∧ FrameEnd U o U' L ({ frames := 0, cells := 0, slots := 0, locals := 0 } : Room).cells ({ frames := 0, cells := 0, slots := 0, locals := 0 } : Room).slots) := by
  refine MetFree.of_bodySF (plainFor_of_name pn_ok2) hisR ?_
  intro p e s m args below meth c s₁ Bd hml0 hP hK
  obtain ⟨rfl, hZ, hh⟩ := hP
  have hx := Bd.exec
  have hby := Bd.bytes
  have hml : c.maxLocals = 9 := hml0
  have hown : s.vm.findClass "com/example/stratum/stratum/index/PostingsPutVarIntPinLaw" = some m.cls := findClass_of_methodNamed Bd.named
  have hnm := (name_of_methodNamed Bd.named Bd.method).1
  have X0 : Stand p l e ({ frames := 0, cells := 0, slots := 0, locals := 0 } : Room) s m #[(.ref a1), (.int (2 : Int32)), (.int p3), (.int p4), (.int p5), (.int p6)] below meth c s₁ [] 0 0 := Stand.of_body Bd
  have e0 : s₁.heap = h0 := by rw [← hh, Bd.state]; rfl
  have N0 := Fr.nil n0
  have pre0 : ∀ t, Steps p.tables e below (s₁.setTop (mkF m 0 #[.val (.ref a1), .val (.int (2 : Int32)), .val (.int p3), .val (.int p4), .val (.int p5), .val (.int p6), .unset, .unset, .unset] [])) t → Steps p.tables e below (s₁.setTop (entryFrame m #[(.ref a1), (.int (2 : Int32)), (.int p3), (.int p4), (.int p5), (.int p6)] 9)) t := fun t k => castTop (ef_ok2 m a1 p3 p4 p5 p6) k
  refine own_step (Q := fun o U' => ∃ v L, o = .returned v ∧ Qok2 Z a1 p3 p4 p5 p6 k1 c0 c1 c2 c3 c4 c5 c6 c7 c8 h0 n0 v U'.heap L ∧ FrameEnd s o U' L ({ frames := 0, cells := 0, slots := 0, locals := 0 } : Room).cells ({ frames := 0, cells := 0, slots := 0, locals := 0 } : Room).slots) pre0 ?_
  refine own_step (B := s₁.setTop (mkF m 2 #[.val (.ref a1), .val (.int (2 : Int32)), .val (.int p3), .val (.int p4), .val (.int p5), .val (.int p6), .unset, .unset, .unset] [(.int p3), (.int (2 : Int32))])) (fun t k => ?_) ?_
  · show Steps p.tables e below (s₁.setTop (mkF m 0 #[.val (.ref a1), .val (.int (2 : Int32)), .val (.int p3), .val (.int p4), .val (.int p5), .val (.int p6), .unset, .unset, .unset] [])) _
    refine XS.iloadN X0.here hx rfl (hb hby d3_0) rfl ?_
    show Steps p.tables e below (s₁.setTop (mkF m 1 #[.val (.ref a1), .val (.int (2 : Int32)), .val (.int p3), .val (.int p4), .val (.int p5), .val (.int p6), .unset, .unset, .unset] [(.int (2 : Int32))])) _
    refine XS.iloadN X0.here hx rfl (hb hby d3_1) rfl ?_
    exact k
  by_cases h1 : (2 : Int32) < p3
  · obtain ⟨cl2, Ar2, -, S2, M2, H2, -⟩ := id A_a1
    have hin2 := inb_of (j := (2 : Int32)) S2 (by decide)
    have hat2 := H2.at hin2 (v := (.int c2)) (rfl)
    have st4 : ∀ t, Steps p.tables e below (s₁.setTop (mkF m 25 #[.val (.ref a1), .val (.int (2 : Int32)), .val (.int p3), .val (.int p4), .val (.int p5), .val (.int p6), .unset, .unset, .unset] [(.int (if c2 = p6 then (1 : Int32) else (0 : Int32)))])) t → Steps p.tables e below (s₁.setTop (mkF m 17 #[.val (.ref a1), .val (.int (2 : Int32)), .val (.int p3), .val (.int p4), .val (.int p5), .val (.int p6), .unset, .unset, .unset] [(.int p6), (.int c2)])) t := by
      intro t k
      by_cases h3 : c2 = p6
      · rw [show (if c2 = p6 then (1 : Int32) else (0 : Int32)) = (1 : Int32) from if_pos h3] at k
        show Steps p.tables e below (s₁.setTop (mkF m 17 #[.val (.ref a1), .val (.int (2 : Int32)), .val (.int p3), .val (.int p4), .val (.int p5), .val (.int p6), .unset, .unset, .unset] [(.int p6), (.int c2)])) _
        refine XS.icmpNo X0.here hx rfl (hb hby d3_17) rfl (teq h3).2 ?_
        show Steps p.tables e below (s₁.setTop (mkF m 20 #[.val (.ref a1), .val (.int (2 : Int32)), .val (.int p3), .val (.int p4), .val (.int p5), .val (.int p6), .unset, .unset, .unset] [])) _
        refine XS.iconst X0.here hx rfl (hb hby d3_20) ?_
        show Steps p.tables e below (s₁.setTop (mkF m 21 #[.val (.ref a1), .val (.int (2 : Int32)), .val (.int p3), .val (.int p4), .val (.int p5), .val (.int p6), .unset, .unset, .unset] [(.int (1 : Int32))])) _
        refine XS.goto X0.here hx rfl (pc0 := 21) (pc' := 25) rfl (hb hby d3_21) (by decide) (by decide) ?_
        exact k
      · rw [show (if c2 = p6 then (1 : Int32) else (0 : Int32)) = (0 : Int32) from if_neg h3] at k
        show Steps p.tables e below (s₁.setTop (mkF m 17 #[.val (.ref a1), .val (.int (2 : Int32)), .val (.int p3), .val (.int p4), .val (.int p5), .val (.int p6), .unset, .unset, .unset] [(.int p6), (.int c2)])) _
        refine XS.icmpYes X0.here hx rfl (pc0 := 17) (pc' := 24) rfl (hb hby d3_17) rfl (feq h3).2 (by decide) (by decide) ?_
        show Steps p.tables e below (s₁.setTop (mkF m 24 #[.val (.ref a1), .val (.int (2 : Int32)), .val (.int p3), .val (.int p4), .val (.int p5), .val (.int p6), .unset, .unset, .unset] [])) _
        refine XS.iconst X0.here hx rfl (hb hby d3_24) ?_
        exact k
    obtain ⟨fs, hr, hrun, hended, hW, hsame⟩ := X0.leave (v := some (.int ((if c2 = p6 then (1 : Int32) else (0 : Int32)) &&& 1))) (fun h => by rw [Bd.returns] at h; cases h)
    refine ⟨_, _, ?_, hrun, hended, _, _, rfl, ?_, ⟨_, rfl⟩, hW, hsame.mono (by decide) (by decide)⟩
    · show Steps p.tables e below (s₁.setTop (mkF m 2 #[.val (.ref a1), .val (.int (2 : Int32)), .val (.int p3), .val (.int p4), .val (.int p5), .val (.int p6), .unset, .unset, .unset] [(.int p3), (.int (2 : Int32))])) _
      refine XS.icmpYes X0.here hx rfl (pc0 := 2) (pc' := 12) rfl (hb hby d3_2) rfl (tlt h1).1 (by decide) (by decide) ?_
      show Steps p.tables e below (s₁.setTop (mkF m 12 #[.val (.ref a1), .val (.int (2 : Int32)), .val (.int p3), .val (.int p4), .val (.int p5), .val (.int p6), .unset, .unset, .unset] [])) _
      refine XS.aloadN X0.here hx rfl (hb hby d3_12) rfl rfl ?_
      show Steps p.tables e below (s₁.setTop (mkF m 13 #[.val (.ref a1), .val (.int (2 : Int32)), .val (.int p3), .val (.int p4), .val (.int p5), .val (.int p6), .unset, .unset, .unset] [(.ref a1)])) _
      refine XS.iloadN X0.here hx rfl (hb hby d3_13) rfl ?_
      show Steps p.tables e below (s₁.setTop (mkF m 14 #[.val (.ref a1), .val (.int (2 : Int32)), .val (.int p3), .val (.int p4), .val (.int p5), .val (.int p6), .unset, .unset, .unset] [(.int (2 : Int32)), (.ref a1)])) _
      refine X0.baloadBytes hx (j := (2 : Int32)) (v := (.int c2)) (by rw [e0]; exact Ar2.1) (State.isArrayOf_alike hZ.alike Ar2.2.1) Ar2.2.2 hin2 hat2 (g := (mkF m 14 #[.val (.ref a1), .val (.int (2 : Int32)), .val (.int p3), .val (.int p4), .val (.int p5), .val (.int p6), .unset, .unset, .unset] [(.int (2 : Int32)), (.ref a1)])) rfl rfl (hb hby d3_14) _ ?_
      show Steps p.tables e below (s₁.setTop (mkF m 15 #[.val (.ref a1), .val (.int (2 : Int32)), .val (.int p3), .val (.int p4), .val (.int p5), .val (.int p6), .unset, .unset, .unset] [(.int c2)])) _
      refine XS.iload X0.here hx rfl (hb hby d3_15) rfl ?_
      show Steps p.tables e below (s₁.setTop (mkF m 17 #[.val (.ref a1), .val (.int (2 : Int32)), .val (.int p3), .val (.int p4), .val (.int p5), .val (.int p6), .unset, .unset, .unset] [(.int p6), (.int c2)])) _
      refine st4 _ ?_
      show Steps p.tables e below (s₁.setTop (mkF m 25 #[.val (.ref a1), .val (.int (2 : Int32)), .val (.int p3), .val (.int p4), .val (.int p5), .val (.int p6), .unset, .unset, .unset] [(.int (if c2 = p6 then (1 : Int32) else (0 : Int32)))])) _
      exact retN X0 hx (t := .boolean) Bd.returns (by simp) (hb hby d3_25) hr
    · show Qok2 Z a1 p3 p4 p5 p6 k1 c0 c1 c2 c3 c4 c5 c6 c7 c8 h0 n0 _ s₁.heap _
      rw [e0]
      have hf : fok2 p3 p4 p5 p6 c0 c1 c2 c3 c4 c5 c6 c7 c8 = ((if c2 = p6 then (1 : Int32) else (0 : Int32)) &&& 1) := by simp only [fok2, if_pos h1]
      exact ⟨by rw [hf], N0, rfl⟩
  · refine own_step (B := s₁.setTop (mkF m 9 #[.val (.ref a1), .val (.int (2 : Int32)), .val (.int p3), .val (.int p4), .val (.int p5), .val (.int p6), .unset, .unset, .unset] [(.int (p3 + p4)), (.int (2 : Int32))])) (fun t k => ?_) ?_
    · show Steps p.tables e below (s₁.setTop (mkF m 2 #[.val (.ref a1), .val (.int (2 : Int32)), .val (.int p3), .val (.int p4), .val (.int p5), .val (.int p6), .unset, .unset, .unset] [(.int p3), (.int (2 : Int32))])) _
      refine XS.icmpNo X0.here hx rfl (hb hby d3_2) rfl (flt h1).1 ?_
      show Steps p.tables e below (s₁.setTop (mkF m 5 #[.val (.ref a1), .val (.int (2 : Int32)), .val (.int p3), .val (.int p4), .val (.int p5), .val (.int p6), .unset, .unset, .unset] [])) _
      refine XS.iloadN X0.here hx rfl (hb hby d3_5) rfl ?_
      show Steps p.tables e below (s₁.setTop (mkF m 6 #[.val (.ref a1), .val (.int (2 : Int32)), .val (.int p3), .val (.int p4), .val (.int p5), .val (.int p6), .unset, .unset, .unset] [(.int (2 : Int32))])) _
      refine XS.iloadN X0.here hx rfl (hb hby d3_6) rfl ?_
      show Steps p.tables e below (s₁.setTop (mkF m 7 #[.val (.ref a1), .val (.int (2 : Int32)), .val (.int p3), .val (.int p4), .val (.int p5), .val (.int p6), .unset, .unset, .unset] [(.int p3), (.int (2 : Int32))])) _
      refine XS.iloadN X0.here hx rfl (hb hby d3_7) rfl ?_
      show Steps p.tables e below (s₁.setTop (mkF m 8 #[.val (.ref a1), .val (.int (2 : Int32)), .val (.int p3), .val (.int p4), .val (.int p5), .val (.int p6), .unset, .unset, .unset] [(.int p4), (.int p3), (.int (2 : Int32))])) _
      refine XS.iadd X0.here hx rfl (hb hby d3_8) rfl ?_
      exact k
    by_cases h5 : (2 : Int32) < (p3 + p4)
    · have st7 : ∀ t, Steps p.tables e below (s₁.setTop (mkF m 63 #[.val (.ref a1), .val (.int (2 : Int32)), .val (.int p3), .val (.int p4), .val (.int p5), .val (.int p6), .val (.int ((2 : Int32) - p3)), .val (.int ((XT.ushr p5 ((7 : Int32) * ((2 : Int32) - p3))) &&& (127 : Int32))), .unset] [(.int (fok2_0 p3 p4 p5 p6 c0 c1 c2 c3 c4 c5 c6 c7 c8))])) t → Steps p.tables e below (s₁.setTop (mkF m 49 #[.val (.ref a1), .val (.int (2 : Int32)), .val (.int p3), .val (.int p4), .val (.int p5), .val (.int p6), .val (.int ((2 : Int32) - p3)), .val (.int ((XT.ushr p5 ((7 : Int32) * ((2 : Int32) - p3))) &&& (127 : Int32))), .unset] [(.int (p4 - (1 : Int32))), (.int ((2 : Int32) - p3))])) t := by
        intro t k
        by_cases h6 : ((2 : Int32) - p3) < (p4 - (1 : Int32))
        · rw [show (fok2_0 p3 p4 p5 p6 c0 c1 c2 c3 c4 c5 c6 c7 c8) = (((XT.ushr p5 ((7 : Int32) * ((2 : Int32) - p3))) &&& (127 : Int32)) ||| (128 : Int32)) from if_pos h6] at k
          show Steps p.tables e below (s₁.setTop (mkF m 49 #[.val (.ref a1), .val (.int (2 : Int32)), .val (.int p3), .val (.int p4), .val (.int p5), .val (.int p6), .val (.int ((2 : Int32) - p3)), .val (.int ((XT.ushr p5 ((7 : Int32) * ((2 : Int32) - p3))) &&& (127 : Int32))), .unset] [(.int (p4 - (1 : Int32))), (.int ((2 : Int32) - p3))])) _
          refine XS.icmpNo X0.here hx rfl (hb hby d3_49) rfl (tlt h6).2.1 ?_
          show Steps p.tables e below (s₁.setTop (mkF m 52 #[.val (.ref a1), .val (.int (2 : Int32)), .val (.int p3), .val (.int p4), .val (.int p5), .val (.int p6), .val (.int ((2 : Int32) - p3)), .val (.int ((XT.ushr p5 ((7 : Int32) * ((2 : Int32) - p3))) &&& (127 : Int32))), .unset] [])) _
          refine XS.iload X0.here hx rfl (hb hby d3_52) rfl ?_
          show Steps p.tables e below (s₁.setTop (mkF m 54 #[.val (.ref a1), .val (.int (2 : Int32)), .val (.int p3), .val (.int p4), .val (.int p5), .val (.int p6), .val (.int ((2 : Int32) - p3)), .val (.int ((XT.ushr p5 ((7 : Int32) * ((2 : Int32) - p3))) &&& (127 : Int32))), .unset] [(.int ((XT.ushr p5 ((7 : Int32) * ((2 : Int32) - p3))) &&& (127 : Int32)))])) _
          refine XS.sipush X0.here hx rfl (hb hby d3_54) ?_
          show Steps p.tables e below (s₁.setTop (mkF m 57 #[.val (.ref a1), .val (.int (2 : Int32)), .val (.int p3), .val (.int p4), .val (.int p5), .val (.int p6), .val (.int ((2 : Int32) - p3)), .val (.int ((XT.ushr p5 ((7 : Int32) * ((2 : Int32) - p3))) &&& (127 : Int32))), .unset] [(.int (128 : Int32)), (.int ((XT.ushr p5 ((7 : Int32) * ((2 : Int32) - p3))) &&& (127 : Int32)))])) _
          refine XT.ior X0.here hx rfl (hb hby d3_57) rfl ?_
          show Steps p.tables e below (s₁.setTop (mkF m 58 #[.val (.ref a1), .val (.int (2 : Int32)), .val (.int p3), .val (.int p4), .val (.int p5), .val (.int p6), .val (.int ((2 : Int32) - p3)), .val (.int ((XT.ushr p5 ((7 : Int32) * ((2 : Int32) - p3))) &&& (127 : Int32))), .unset] [(.int (((XT.ushr p5 ((7 : Int32) * ((2 : Int32) - p3))) &&& (127 : Int32)) ||| (128 : Int32)))])) _
          refine XS.goto X0.here hx rfl (pc0 := 58) (pc' := 63) rfl (hb hby d3_58) (by decide) (by decide) ?_
          exact k
        · rw [show (fok2_0 p3 p4 p5 p6 c0 c1 c2 c3 c4 c5 c6 c7 c8) = ((XT.ushr p5 ((7 : Int32) * ((2 : Int32) - p3))) &&& (127 : Int32)) from if_neg h6] at k
          show Steps p.tables e below (s₁.setTop (mkF m 49 #[.val (.ref a1), .val (.int (2 : Int32)), .val (.int p3), .val (.int p4), .val (.int p5), .val (.int p6), .val (.int ((2 : Int32) - p3)), .val (.int ((XT.ushr p5 ((7 : Int32) * ((2 : Int32) - p3))) &&& (127 : Int32))), .unset] [(.int (p4 - (1 : Int32))), (.int ((2 : Int32) - p3))])) _
          refine XS.icmpYes X0.here hx rfl (pc0 := 49) (pc' := 61) rfl (hb hby d3_49) rfl (flt h6).2.1 (by decide) (by decide) ?_
          show Steps p.tables e below (s₁.setTop (mkF m 61 #[.val (.ref a1), .val (.int (2 : Int32)), .val (.int p3), .val (.int p4), .val (.int p5), .val (.int p6), .val (.int ((2 : Int32) - p3)), .val (.int ((XT.ushr p5 ((7 : Int32) * ((2 : Int32) - p3))) &&& (127 : Int32))), .unset] [])) _
          refine XS.iload X0.here hx rfl (hb hby d3_61) rfl ?_
          exact k
      obtain ⟨cl8, Ar8, -, S8, M8, H8, -⟩ := id A_a1
      have hin8 := inb_of (j := (2 : Int32)) S8 (by decide)
      have hat8 := H8.at hin8 (v := (.int c2)) (rfl)
      have st10 : ∀ t, Steps p.tables e below (s₁.setTop (mkF m 79 #[.val (.ref a1), .val (.int (2 : Int32)), .val (.int p3), .val (.int p4), .val (.int p5), .val (.int p6), .val (.int ((2 : Int32) - p3)), .val (.int ((XT.ushr p5 ((7 : Int32) * ((2 : Int32) - p3))) &&& (127 : Int32))), .val (.int (fok2_0 p3 p4 p5 p6 c0 c1 c2 c3 c4 c5 c6 c7 c8))] [(.int (fok2_1 p3 p4 p5 p6 c0 c1 c2 c3 c4 c5 c6 c7 c8))])) t → Steps p.tables e below (s₁.setTop (mkF m 71 #[.val (.ref a1), .val (.int (2 : Int32)), .val (.int p3), .val (.int p4), .val (.int p5), .val (.int p6), .val (.int ((2 : Int32) - p3)), .val (.int ((XT.ushr p5 ((7 : Int32) * ((2 : Int32) - p3))) &&& (127 : Int32))), .val (.int (fok2_0 p3 p4 p5 p6 c0 c1 c2 c3 c4 c5 c6 c7 c8))] [(.int (fok2_0 p3 p4 p5 p6 c0 c1 c2 c3 c4 c5 c6 c7 c8).toInt8.toInt32), (.int c2)])) t := by
        intro t k
        by_cases h9 : c2 = (fok2_0 p3 p4 p5 p6 c0 c1 c2 c3 c4 c5 c6 c7 c8).toInt8.toInt32
        · rw [show (fok2_1 p3 p4 p5 p6 c0 c1 c2 c3 c4 c5 c6 c7 c8) = (1 : Int32) from if_pos h9] at k
          show Steps p.tables e below (s₁.setTop (mkF m 71 #[.val (.ref a1), .val (.int (2 : Int32)), .val (.int p3), .val (.int p4), .val (.int p5), .val (.int p6), .val (.int ((2 : Int32) - p3)), .val (.int ((XT.ushr p5 ((7 : Int32) * ((2 : Int32) - p3))) &&& (127 : Int32))), .val (.int (fok2_0 p3 p4 p5 p6 c0 c1 c2 c3 c4 c5 c6 c7 c8))] [(.int (fok2_0 p3 p4 p5 p6 c0 c1 c2 c3 c4 c5 c6 c7 c8).toInt8.toInt32), (.int c2)])) _
          refine XS.icmpNo X0.here hx rfl (hb hby d3_71) rfl (teq h9).2 ?_
          show Steps p.tables e below (s₁.setTop (mkF m 74 #[.val (.ref a1), .val (.int (2 : Int32)), .val (.int p3), .val (.int p4), .val (.int p5), .val (.int p6), .val (.int ((2 : Int32) - p3)), .val (.int ((XT.ushr p5 ((7 : Int32) * ((2 : Int32) - p3))) &&& (127 : Int32))), .val (.int (fok2_0 p3 p4 p5 p6 c0 c1 c2 c3 c4 c5 c6 c7 c8))] [])) _
          refine XS.iconst X0.here hx rfl (hb hby d3_74) ?_
          show Steps p.tables e below (s₁.setTop (mkF m 75 #[.val (.ref a1), .val (.int (2 : Int32)), .val (.int p3), .val (.int p4), .val (.int p5), .val (.int p6), .val (.int ((2 : Int32) - p3)), .val (.int ((XT.ushr p5 ((7 : Int32) * ((2 : Int32) - p3))) &&& (127 : Int32))), .val (.int (fok2_0 p3 p4 p5 p6 c0 c1 c2 c3 c4 c5 c6 c7 c8))] [(.int (1 : Int32))])) _
          refine XS.goto X0.here hx rfl (pc0 := 75) (pc' := 79) rfl (hb hby d3_75) (by decide) (by decide) ?_
          exact k
        · rw [show (fok2_1 p3 p4 p5 p6 c0 c1 c2 c3 c4 c5 c6 c7 c8) = (0 : Int32) from if_neg h9] at k
          show Steps p.tables e below (s₁.setTop (mkF m 71 #[.val (.ref a1), .val (.int (2 : Int32)), .val (.int p3), .val (.int p4), .val (.int p5), .val (.int p6), .val (.int ((2 : Int32) - p3)), .val (.int ((XT.ushr p5 ((7 : Int32) * ((2 : Int32) - p3))) &&& (127 : Int32))), .val (.int (fok2_0 p3 p4 p5 p6 c0 c1 c2 c3 c4 c5 c6 c7 c8))] [(.int (fok2_0 p3 p4 p5 p6 c0 c1 c2 c3 c4 c5 c6 c7 c8).toInt8.toInt32), (.int c2)])) _
          refine XS.icmpYes X0.here hx rfl (pc0 := 71) (pc' := 78) rfl (hb hby d3_71) rfl (feq h9).2 (by decide) (by decide) ?_
          show Steps p.tables e below (s₁.setTop (mkF m 78 #[.val (.ref a1), .val (.int (2 : Int32)), .val (.int p3), .val (.int p4), .val (.int p5), .val (.int p6), .val (.int ((2 : Int32) - p3)), .val (.int ((XT.ushr p5 ((7 : Int32) * ((2 : Int32) - p3))) &&& (127 : Int32))), .val (.int (fok2_0 p3 p4 p5 p6 c0 c1 c2 c3 c4 c5 c6 c7 c8))] [])) _
          refine XS.iconst X0.here hx rfl (hb hby d3_78) ?_
          exact k
      obtain ⟨fs, hr, hrun, hended, hW, hsame⟩ := X0.leave (v := some (.int ((fok2_1 p3 p4 p5 p6 c0 c1 c2 c3 c4 c5 c6 c7 c8) &&& 1))) (fun h => by rw [Bd.returns] at h; cases h)
      refine ⟨_, _, ?_, hrun, hended, _, _, rfl, ?_, ⟨_, rfl⟩, hW, hsame.mono (by decide) (by decide)⟩
      · show Steps p.tables e below (s₁.setTop (mkF m 9 #[.val (.ref a1), .val (.int (2 : Int32)), .val (.int p3), .val (.int p4), .val (.int p5), .val (.int p6), .unset, .unset, .unset] [(.int (p3 + p4)), (.int (2 : Int32))])) _
        refine XS.icmpYes X0.here hx rfl (pc0 := 9) (pc' := 26) rfl (hb hby d3_9) rfl (tlt h5).1 (by decide) (by decide) ?_
        show Steps p.tables e below (s₁.setTop (mkF m 26 #[.val (.ref a1), .val (.int (2 : Int32)), .val (.int p3), .val (.int p4), .val (.int p5), .val (.int p6), .unset, .unset, .unset] [])) _
        refine XS.iloadN X0.here hx rfl (hb hby d3_26) rfl ?_
        show Steps p.tables e below (s₁.setTop (mkF m 27 #[.val (.ref a1), .val (.int (2 : Int32)), .val (.int p3), .val (.int p4), .val (.int p5), .val (.int p6), .unset, .unset, .unset] [(.int (2 : Int32))])) _
        refine XS.iloadN X0.here hx rfl (hb hby d3_27) rfl ?_
        show Steps p.tables e below (s₁.setTop (mkF m 28 #[.val (.ref a1), .val (.int (2 : Int32)), .val (.int p3), .val (.int p4), .val (.int p5), .val (.int p6), .unset, .unset, .unset] [(.int p3), (.int (2 : Int32))])) _
        refine XS.isub X0.here hx rfl (hb hby d3_28) rfl ?_
        show Steps p.tables e below (s₁.setTop (mkF m 29 #[.val (.ref a1), .val (.int (2 : Int32)), .val (.int p3), .val (.int p4), .val (.int p5), .val (.int p6), .unset, .unset, .unset] [(.int ((2 : Int32) - p3))])) _
        refine XS.istore X0.here hx rfl (hb hby d3_29) rfl (l' := #[.val (.ref a1), .val (.int (2 : Int32)), .val (.int p3), .val (.int p4), .val (.int p5), .val (.int p6), .val (.int ((2 : Int32) - p3)), .unset, .unset]) rfl ?_
        show Steps p.tables e below (s₁.setTop (mkF m 31 #[.val (.ref a1), .val (.int (2 : Int32)), .val (.int p3), .val (.int p4), .val (.int p5), .val (.int p6), .val (.int ((2 : Int32) - p3)), .unset, .unset] [])) _
        refine XS.iload X0.here hx rfl (hb hby d3_31) rfl ?_
        show Steps p.tables e below (s₁.setTop (mkF m 33 #[.val (.ref a1), .val (.int (2 : Int32)), .val (.int p3), .val (.int p4), .val (.int p5), .val (.int p6), .val (.int ((2 : Int32) - p3)), .unset, .unset] [(.int p5)])) _
        refine XS.bipush X0.here hx rfl (hb hby d3_33) ?_
        show Steps p.tables e below (s₁.setTop (mkF m 35 #[.val (.ref a1), .val (.int (2 : Int32)), .val (.int p3), .val (.int p4), .val (.int p5), .val (.int p6), .val (.int ((2 : Int32) - p3)), .unset, .unset] [(.int (7 : Int32)), (.int p5)])) _
        refine XS.iload X0.here hx rfl (hb hby d3_35) rfl ?_
        show Steps p.tables e below (s₁.setTop (mkF m 37 #[.val (.ref a1), .val (.int (2 : Int32)), .val (.int p3), .val (.int p4), .val (.int p5), .val (.int p6), .val (.int ((2 : Int32) - p3)), .unset, .unset] [(.int ((2 : Int32) - p3)), (.int (7 : Int32)), (.int p5)])) _
        refine XS.imul X0.here hx rfl (hb hby d3_37) rfl ?_
        show Steps p.tables e below (s₁.setTop (mkF m 38 #[.val (.ref a1), .val (.int (2 : Int32)), .val (.int p3), .val (.int p4), .val (.int p5), .val (.int p6), .val (.int ((2 : Int32) - p3)), .unset, .unset] [(.int ((7 : Int32) * ((2 : Int32) - p3))), (.int p5)])) _
        refine XT.iushr X0.here hx rfl (hb hby d3_38) rfl ?_
        show Steps p.tables e below (s₁.setTop (mkF m 39 #[.val (.ref a1), .val (.int (2 : Int32)), .val (.int p3), .val (.int p4), .val (.int p5), .val (.int p6), .val (.int ((2 : Int32) - p3)), .unset, .unset] [(.int (XT.ushr p5 ((7 : Int32) * ((2 : Int32) - p3))))])) _
        refine XS.bipush X0.here hx rfl (hb hby d3_39) ?_
        show Steps p.tables e below (s₁.setTop (mkF m 41 #[.val (.ref a1), .val (.int (2 : Int32)), .val (.int p3), .val (.int p4), .val (.int p5), .val (.int p6), .val (.int ((2 : Int32) - p3)), .unset, .unset] [(.int (127 : Int32)), (.int (XT.ushr p5 ((7 : Int32) * ((2 : Int32) - p3))))])) _
        refine XS.iand X0.here hx rfl (hb hby d3_41) rfl ?_
        show Steps p.tables e below (s₁.setTop (mkF m 42 #[.val (.ref a1), .val (.int (2 : Int32)), .val (.int p3), .val (.int p4), .val (.int p5), .val (.int p6), .val (.int ((2 : Int32) - p3)), .unset, .unset] [(.int ((XT.ushr p5 ((7 : Int32) * ((2 : Int32) - p3))) &&& (127 : Int32)))])) _
        refine XS.istore X0.here hx rfl (hb hby d3_42) rfl (l' := #[.val (.ref a1), .val (.int (2 : Int32)), .val (.int p3), .val (.int p4), .val (.int p5), .val (.int p6), .val (.int ((2 : Int32) - p3)), .val (.int ((XT.ushr p5 ((7 : Int32) * ((2 : Int32) - p3))) &&& (127 : Int32))), .unset]) rfl ?_
        show Steps p.tables e below (s₁.setTop (mkF m 44 #[.val (.ref a1), .val (.int (2 : Int32)), .val (.int p3), .val (.int p4), .val (.int p5), .val (.int p6), .val (.int ((2 : Int32) - p3)), .val (.int ((XT.ushr p5 ((7 : Int32) * ((2 : Int32) - p3))) &&& (127 : Int32))), .unset] [])) _
        refine XS.iload X0.here hx rfl (hb hby d3_44) rfl ?_
        show Steps p.tables e below (s₁.setTop (mkF m 46 #[.val (.ref a1), .val (.int (2 : Int32)), .val (.int p3), .val (.int p4), .val (.int p5), .val (.int p6), .val (.int ((2 : Int32) - p3)), .val (.int ((XT.ushr p5 ((7 : Int32) * ((2 : Int32) - p3))) &&& (127 : Int32))), .unset] [(.int ((2 : Int32) - p3))])) _
        refine XS.iloadN X0.here hx rfl (hb hby d3_46) rfl ?_
        show Steps p.tables e below (s₁.setTop (mkF m 47 #[.val (.ref a1), .val (.int (2 : Int32)), .val (.int p3), .val (.int p4), .val (.int p5), .val (.int p6), .val (.int ((2 : Int32) - p3)), .val (.int ((XT.ushr p5 ((7 : Int32) * ((2 : Int32) - p3))) &&& (127 : Int32))), .unset] [(.int p4), (.int ((2 : Int32) - p3))])) _
        refine XS.iconst X0.here hx rfl (hb hby d3_47) ?_
        show Steps p.tables e below (s₁.setTop (mkF m 48 #[.val (.ref a1), .val (.int (2 : Int32)), .val (.int p3), .val (.int p4), .val (.int p5), .val (.int p6), .val (.int ((2 : Int32) - p3)), .val (.int ((XT.ushr p5 ((7 : Int32) * ((2 : Int32) - p3))) &&& (127 : Int32))), .unset] [(.int (1 : Int32)), (.int p4), (.int ((2 : Int32) - p3))])) _
        refine XS.isub X0.here hx rfl (hb hby d3_48) rfl ?_
        show Steps p.tables e below (s₁.setTop (mkF m 49 #[.val (.ref a1), .val (.int (2 : Int32)), .val (.int p3), .val (.int p4), .val (.int p5), .val (.int p6), .val (.int ((2 : Int32) - p3)), .val (.int ((XT.ushr p5 ((7 : Int32) * ((2 : Int32) - p3))) &&& (127 : Int32))), .unset] [(.int (p4 - (1 : Int32))), (.int ((2 : Int32) - p3))])) _
        refine st7 _ ?_
        show Steps p.tables e below (s₁.setTop (mkF m 63 #[.val (.ref a1), .val (.int (2 : Int32)), .val (.int p3), .val (.int p4), .val (.int p5), .val (.int p6), .val (.int ((2 : Int32) - p3)), .val (.int ((XT.ushr p5 ((7 : Int32) * ((2 : Int32) - p3))) &&& (127 : Int32))), .unset] [(.int (fok2_0 p3 p4 p5 p6 c0 c1 c2 c3 c4 c5 c6 c7 c8))])) _
        refine XS.istore X0.here hx rfl (hb hby d3_63) rfl (l' := #[.val (.ref a1), .val (.int (2 : Int32)), .val (.int p3), .val (.int p4), .val (.int p5), .val (.int p6), .val (.int ((2 : Int32) - p3)), .val (.int ((XT.ushr p5 ((7 : Int32) * ((2 : Int32) - p3))) &&& (127 : Int32))), .val (.int (fok2_0 p3 p4 p5 p6 c0 c1 c2 c3 c4 c5 c6 c7 c8))]) rfl ?_
        show Steps p.tables e below (s₁.setTop (mkF m 65 #[.val (.ref a1), .val (.int (2 : Int32)), .val (.int p3), .val (.int p4), .val (.int p5), .val (.int p6), .val (.int ((2 : Int32) - p3)), .val (.int ((XT.ushr p5 ((7 : Int32) * ((2 : Int32) - p3))) &&& (127 : Int32))), .val (.int (fok2_0 p3 p4 p5 p6 c0 c1 c2 c3 c4 c5 c6 c7 c8))] [])) _
        refine XS.aloadN X0.here hx rfl (hb hby d3_65) rfl rfl ?_
        show Steps p.tables e below (s₁.setTop (mkF m 66 #[.val (.ref a1), .val (.int (2 : Int32)), .val (.int p3), .val (.int p4), .val (.int p5), .val (.int p6), .val (.int ((2 : Int32) - p3)), .val (.int ((XT.ushr p5 ((7 : Int32) * ((2 : Int32) - p3))) &&& (127 : Int32))), .val (.int (fok2_0 p3 p4 p5 p6 c0 c1 c2 c3 c4 c5 c6 c7 c8))] [(.ref a1)])) _
        refine XS.iloadN X0.here hx rfl (hb hby d3_66) rfl ?_
        show Steps p.tables e below (s₁.setTop (mkF m 67 #[.val (.ref a1), .val (.int (2 : Int32)), .val (.int p3), .val (.int p4), .val (.int p5), .val (.int p6), .val (.int ((2 : Int32) - p3)), .val (.int ((XT.ushr p5 ((7 : Int32) * ((2 : Int32) - p3))) &&& (127 : Int32))), .val (.int (fok2_0 p3 p4 p5 p6 c0 c1 c2 c3 c4 c5 c6 c7 c8))] [(.int (2 : Int32)), (.ref a1)])) _
        refine X0.baloadBytes hx (j := (2 : Int32)) (v := (.int c2)) (by rw [e0]; exact Ar8.1) (State.isArrayOf_alike hZ.alike Ar8.2.1) Ar8.2.2 hin8 hat8 (g := (mkF m 67 #[.val (.ref a1), .val (.int (2 : Int32)), .val (.int p3), .val (.int p4), .val (.int p5), .val (.int p6), .val (.int ((2 : Int32) - p3)), .val (.int ((XT.ushr p5 ((7 : Int32) * ((2 : Int32) - p3))) &&& (127 : Int32))), .val (.int (fok2_0 p3 p4 p5 p6 c0 c1 c2 c3 c4 c5 c6 c7 c8))] [(.int (2 : Int32)), (.ref a1)])) rfl rfl (hb hby d3_67) _ ?_
        show Steps p.tables e below (s₁.setTop (mkF m 68 #[.val (.ref a1), .val (.int (2 : Int32)), .val (.int p3), .val (.int p4), .val (.int p5), .val (.int p6), .val (.int ((2 : Int32) - p3)), .val (.int ((XT.ushr p5 ((7 : Int32) * ((2 : Int32) - p3))) &&& (127 : Int32))), .val (.int (fok2_0 p3 p4 p5 p6 c0 c1 c2 c3 c4 c5 c6 c7 c8))] [(.int c2)])) _
        refine XS.iload X0.here hx rfl (hb hby d3_68) rfl ?_
        show Steps p.tables e below (s₁.setTop (mkF m 70 #[.val (.ref a1), .val (.int (2 : Int32)), .val (.int p3), .val (.int p4), .val (.int p5), .val (.int p6), .val (.int ((2 : Int32) - p3)), .val (.int ((XT.ushr p5 ((7 : Int32) * ((2 : Int32) - p3))) &&& (127 : Int32))), .val (.int (fok2_0 p3 p4 p5 p6 c0 c1 c2 c3 c4 c5 c6 c7 c8))] [(.int (fok2_0 p3 p4 p5 p6 c0 c1 c2 c3 c4 c5 c6 c7 c8)), (.int c2)])) _
        refine XT.i2b X0.here hx rfl (hb hby d3_70) rfl ?_
        show Steps p.tables e below (s₁.setTop (mkF m 71 #[.val (.ref a1), .val (.int (2 : Int32)), .val (.int p3), .val (.int p4), .val (.int p5), .val (.int p6), .val (.int ((2 : Int32) - p3)), .val (.int ((XT.ushr p5 ((7 : Int32) * ((2 : Int32) - p3))) &&& (127 : Int32))), .val (.int (fok2_0 p3 p4 p5 p6 c0 c1 c2 c3 c4 c5 c6 c7 c8))] [(.int (fok2_0 p3 p4 p5 p6 c0 c1 c2 c3 c4 c5 c6 c7 c8).toInt8.toInt32), (.int c2)])) _
        refine st10 _ ?_
        show Steps p.tables e below (s₁.setTop (mkF m 79 #[.val (.ref a1), .val (.int (2 : Int32)), .val (.int p3), .val (.int p4), .val (.int p5), .val (.int p6), .val (.int ((2 : Int32) - p3)), .val (.int ((XT.ushr p5 ((7 : Int32) * ((2 : Int32) - p3))) &&& (127 : Int32))), .val (.int (fok2_0 p3 p4 p5 p6 c0 c1 c2 c3 c4 c5 c6 c7 c8))] [(.int (fok2_1 p3 p4 p5 p6 c0 c1 c2 c3 c4 c5 c6 c7 c8))])) _
        exact retN X0 hx (t := .boolean) Bd.returns (by simp) (hb hby d3_79) hr
      · show Qok2 Z a1 p3 p4 p5 p6 k1 c0 c1 c2 c3 c4 c5 c6 c7 c8 h0 n0 _ s₁.heap _
        rw [e0]
        have hf : fok2 p3 p4 p5 p6 c0 c1 c2 c3 c4 c5 c6 c7 c8 = ((fok2_1 p3 p4 p5 p6 c0 c1 c2 c3 c4 c5 c6 c7 c8) &&& 1) := by simp only [fok2, if_neg h1, if_pos h5]
        exact ⟨by rw [hf], N0, rfl⟩
    · obtain ⟨cl11, Ar11, -, S11, M11, H11, -⟩ := id A_a1
      have hin11 := inb_of (j := (2 : Int32)) S11 (by decide)
      have hat11 := H11.at hin11 (v := (.int c2)) (rfl)
      have st13 : ∀ t, Steps p.tables e below (s₁.setTop (mkF m 25 #[.val (.ref a1), .val (.int (2 : Int32)), .val (.int p3), .val (.int p4), .val (.int p5), .val (.int p6), .unset, .unset, .unset] [(.int (if c2 = p6 then (1 : Int32) else (0 : Int32)))])) t → Steps p.tables e below (s₁.setTop (mkF m 17 #[.val (.ref a1), .val (.int (2 : Int32)), .val (.int p3), .val (.int p4), .val (.int p5), .val (.int p6), .unset, .unset, .unset] [(.int p6), (.int c2)])) t := by
        intro t k
        by_cases h12 : c2 = p6
        · rw [show (if c2 = p6 then (1 : Int32) else (0 : Int32)) = (1 : Int32) from if_pos h12] at k
          show Steps p.tables e below (s₁.setTop (mkF m 17 #[.val (.ref a1), .val (.int (2 : Int32)), .val (.int p3), .val (.int p4), .val (.int p5), .val (.int p6), .unset, .unset, .unset] [(.int p6), (.int c2)])) _
          refine XS.icmpNo X0.here hx rfl (hb hby d3_17) rfl (teq h12).2 ?_
          show Steps p.tables e below (s₁.setTop (mkF m 20 #[.val (.ref a1), .val (.int (2 : Int32)), .val (.int p3), .val (.int p4), .val (.int p5), .val (.int p6), .unset, .unset, .unset] [])) _
          refine XS.iconst X0.here hx rfl (hb hby d3_20) ?_
          show Steps p.tables e below (s₁.setTop (mkF m 21 #[.val (.ref a1), .val (.int (2 : Int32)), .val (.int p3), .val (.int p4), .val (.int p5), .val (.int p6), .unset, .unset, .unset] [(.int (1 : Int32))])) _
          refine XS.goto X0.here hx rfl (pc0 := 21) (pc' := 25) rfl (hb hby d3_21) (by decide) (by decide) ?_
          exact k
        · rw [show (if c2 = p6 then (1 : Int32) else (0 : Int32)) = (0 : Int32) from if_neg h12] at k
          show Steps p.tables e below (s₁.setTop (mkF m 17 #[.val (.ref a1), .val (.int (2 : Int32)), .val (.int p3), .val (.int p4), .val (.int p5), .val (.int p6), .unset, .unset, .unset] [(.int p6), (.int c2)])) _
          refine XS.icmpYes X0.here hx rfl (pc0 := 17) (pc' := 24) rfl (hb hby d3_17) rfl (feq h12).2 (by decide) (by decide) ?_
          show Steps p.tables e below (s₁.setTop (mkF m 24 #[.val (.ref a1), .val (.int (2 : Int32)), .val (.int p3), .val (.int p4), .val (.int p5), .val (.int p6), .unset, .unset, .unset] [])) _
          refine XS.iconst X0.here hx rfl (hb hby d3_24) ?_
          exact k
      obtain ⟨fs, hr, hrun, hended, hW, hsame⟩ := X0.leave (v := some (.int ((if c2 = p6 then (1 : Int32) else (0 : Int32)) &&& 1))) (fun h => by rw [Bd.returns] at h; cases h)
      refine ⟨_, _, ?_, hrun, hended, _, _, rfl, ?_, ⟨_, rfl⟩, hW, hsame.mono (by decide) (by decide)⟩
      · show Steps p.tables e below (s₁.setTop (mkF m 9 #[.val (.ref a1), .val (.int (2 : Int32)), .val (.int p3), .val (.int p4), .val (.int p5), .val (.int p6), .unset, .unset, .unset] [(.int (p3 + p4)), (.int (2 : Int32))])) _
        refine XS.icmpNo X0.here hx rfl (hb hby d3_9) rfl (flt h5).1 ?_
        show Steps p.tables e below (s₁.setTop (mkF m 12 #[.val (.ref a1), .val (.int (2 : Int32)), .val (.int p3), .val (.int p4), .val (.int p5), .val (.int p6), .unset, .unset, .unset] [])) _
        refine XS.aloadN X0.here hx rfl (hb hby d3_12) rfl rfl ?_
        show Steps p.tables e below (s₁.setTop (mkF m 13 #[.val (.ref a1), .val (.int (2 : Int32)), .val (.int p3), .val (.int p4), .val (.int p5), .val (.int p6), .unset, .unset, .unset] [(.ref a1)])) _
        refine XS.iloadN X0.here hx rfl (hb hby d3_13) rfl ?_
        show Steps p.tables e below (s₁.setTop (mkF m 14 #[.val (.ref a1), .val (.int (2 : Int32)), .val (.int p3), .val (.int p4), .val (.int p5), .val (.int p6), .unset, .unset, .unset] [(.int (2 : Int32)), (.ref a1)])) _
        refine X0.baloadBytes hx (j := (2 : Int32)) (v := (.int c2)) (by rw [e0]; exact Ar11.1) (State.isArrayOf_alike hZ.alike Ar11.2.1) Ar11.2.2 hin11 hat11 (g := (mkF m 14 #[.val (.ref a1), .val (.int (2 : Int32)), .val (.int p3), .val (.int p4), .val (.int p5), .val (.int p6), .unset, .unset, .unset] [(.int (2 : Int32)), (.ref a1)])) rfl rfl (hb hby d3_14) _ ?_
        show Steps p.tables e below (s₁.setTop (mkF m 15 #[.val (.ref a1), .val (.int (2 : Int32)), .val (.int p3), .val (.int p4), .val (.int p5), .val (.int p6), .unset, .unset, .unset] [(.int c2)])) _
        refine XS.iload X0.here hx rfl (hb hby d3_15) rfl ?_
        show Steps p.tables e below (s₁.setTop (mkF m 17 #[.val (.ref a1), .val (.int (2 : Int32)), .val (.int p3), .val (.int p4), .val (.int p5), .val (.int p6), .unset, .unset, .unset] [(.int p6), (.int c2)])) _
        refine st13 _ ?_
        show Steps p.tables e below (s₁.setTop (mkF m 25 #[.val (.ref a1), .val (.int (2 : Int32)), .val (.int p3), .val (.int p4), .val (.int p5), .val (.int p6), .unset, .unset, .unset] [(.int (if c2 = p6 then (1 : Int32) else (0 : Int32)))])) _
        exact retN X0 hx (t := .boolean) Bd.returns (by simp) (hb hby d3_25) hr
      · show Qok2 Z a1 p3 p4 p5 p6 k1 c0 c1 c2 c3 c4 c5 c6 c7 c8 h0 n0 _ s₁.heap _
        rw [e0]
        have hf : fok2 p3 p4 p5 p6 c0 c1 c2 c3 c4 c5 c6 c7 c8 = ((if c2 = p6 then (1 : Int32) else (0 : Int32)) &&& 1) := by simp only [fok2, if_neg h1, if_neg h5]
        exact ⟨by rw [hf], N0, rfl⟩
theorem pn_ok3 : plainName "com/example/stratum/stratum/index/PostingsPutVarIntPinLaw" = true := by first | (simp [plainName, overriddenIn]; done) | decide +kernel
theorem ef_ok3 (m : MethodId) (a1 : Addr) (p3 : Int32) (p4 : Int32) (p5 : Int32) (p6 : Int32) : entryFrame m #[(.ref a1), (.int (3 : Int32)), (.int p3), (.int p4), (.int p5), (.int p6)] 9 = mkF m 0 #[.val (.ref a1), .val (.int (3 : Int32)), .val (.int p3), .val (.int p4), .val (.int p5), .val (.int p6), .unset, .unset, .unset] [] := by first | (simp [entryFrame, mkF, argsToLocals, Value.category]; done) | rfl
def Qok3 (Z : State) (a1 : Addr) (p3 : Int32) (p4 : Int32) (p5 : Int32) (p6 : Int32) (k1 : ClassId) (c0 : Int32) (c1 : Int32) (c2 : Int32) (c3 : Int32) (c4 : Int32) (c5 : Int32) (c6 : Int32) (c7 : Int32) (c8 : Int32) (h0 : Heap) (n0 : Nat) (v : Option Value) (h : Heap) (L : List Loc) : Prop := v = some (.int (fok3 p3 p4 p5 p6 c0 c1 c2 c3 c4 c5 c6 c7 c8)) ∧ Fr n0 L ∧ h = h0
set_option maxRecDepth 65536 in
set_option maxHeartbeats 40000000 in
theorem rmok3 (l : Launch) (Z : State) (a0 : Array Value) (hw : ∀ d ∈ tables_1, d.before a0 Z = true) (ws : List Jvm.Cond) (a1 : Addr) (p3 : Int32) (p4 : Int32) (p5 : Int32) (p6 : Int32) (k1 : ClassId) (c0 : Int32) (c1 : Int32) (c2 : Int32) (c3 : Int32) (c4 : Int32) (c5 : Int32) (c6 : Int32) (c7 : Int32) (c8 : Int32) (h0 : Heap) (n0 : Nat) (Z0 : n0 ≤ h0.size) (A_a1 : Arv Z h0 a1 k1 .byte (9 : Int32) [(.int c0), (.int c1), (.int c2), (.int c3), (.int c4), (.int c5), (.int c6), (.int c7), (.int c8)] (.int (0 : Int32))) :
    MetFree l (⟨"com/example/stratum/stratum/index/PostingsPutVarIntPinLaw", "ok", "([BIIIIB)Z"⟩ : MethodName) (head1 (Jvm.Cond.code (⟨"com/example/stratum/stratum/index/PostingsPutVarIntPinLaw", "ok", "([BIIIIB)Z"⟩ : MethodName) method_4_code 9 (some .boolean) :: ws) ({ frames := 0, cells := 0, slots := 0, locals := 0 } : Room)) (fun a U => a = #[(.ref a1), (.int (3 : Int32)), (.int p3), (.int p4), (.int p5), (.int p6)] ∧ Z.Warmed39 U.vm ∧ U.heap = h0) (fun _ _ _ _ _ => True) (fun _ U o U' => ∃ v L, o = .returned v ∧ Qok3 Z a1 p3 p4 p5 p6 k1 c0 c1 c2 c3 c4 c5 c6 c7 c8 h0 n0 v U'.heap L ∧ FrameEnd U o U' L ({ frames := 0, cells := 0, slots := 0, locals := 0 } : Room).cells ({ frames := 0, cells := 0, slots := 0, locals := 0 } : Room).slots) := by
  refine MetFree.of_bodySF (plainFor_of_name pn_ok3) hisR ?_
  intro p e s m args below meth c s₁ Bd hml0 hP hK
  obtain ⟨rfl, hZ, hh⟩ := hP
  have hx := Bd.exec
  have hby := Bd.bytes
  have hml : c.maxLocals = 9 := hml0
  have hown : s.vm.findClass "com/example/stratum/stratum/index/PostingsPutVarIntPinLaw" = some m.cls := findClass_of_methodNamed Bd.named
  have hnm := (name_of_methodNamed Bd.named Bd.method).1
  have X0 : Stand p l e ({ frames := 0, cells := 0, slots := 0, locals := 0 } : Room) s m #[(.ref a1), (.int (3 : Int32)), (.int p3), (.int p4), (.int p5), (.int p6)] below meth c s₁ [] 0 0 := Stand.of_body Bd
  have e0 : s₁.heap = h0 := by rw [← hh, Bd.state]; rfl
  have N0 := Fr.nil n0
  have pre0 : ∀ t, Steps p.tables e below (s₁.setTop (mkF m 0 #[.val (.ref a1), .val (.int (3 : Int32)), .val (.int p3), .val (.int p4), .val (.int p5), .val (.int p6), .unset, .unset, .unset] [])) t → Steps p.tables e below (s₁.setTop (entryFrame m #[(.ref a1), (.int (3 : Int32)), (.int p3), (.int p4), (.int p5), (.int p6)] 9)) t := fun t k => castTop (ef_ok3 m a1 p3 p4 p5 p6) k
  refine own_step (Q := fun o U' => ∃ v L, o = .returned v ∧ Qok3 Z a1 p3 p4 p5 p6 k1 c0 c1 c2 c3 c4 c5 c6 c7 c8 h0 n0 v U'.heap L ∧ FrameEnd s o U' L ({ frames := 0, cells := 0, slots := 0, locals := 0 } : Room).cells ({ frames := 0, cells := 0, slots := 0, locals := 0 } : Room).slots) pre0 ?_
  refine own_step (B := s₁.setTop (mkF m 2 #[.val (.ref a1), .val (.int (3 : Int32)), .val (.int p3), .val (.int p4), .val (.int p5), .val (.int p6), .unset, .unset, .unset] [(.int p3), (.int (3 : Int32))])) (fun t k => ?_) ?_
  · show Steps p.tables e below (s₁.setTop (mkF m 0 #[.val (.ref a1), .val (.int (3 : Int32)), .val (.int p3), .val (.int p4), .val (.int p5), .val (.int p6), .unset, .unset, .unset] [])) _
    refine XS.iloadN X0.here hx rfl (hb hby d3_0) rfl ?_
    show Steps p.tables e below (s₁.setTop (mkF m 1 #[.val (.ref a1), .val (.int (3 : Int32)), .val (.int p3), .val (.int p4), .val (.int p5), .val (.int p6), .unset, .unset, .unset] [(.int (3 : Int32))])) _
    refine XS.iloadN X0.here hx rfl (hb hby d3_1) rfl ?_
    exact k
  by_cases h1 : (3 : Int32) < p3
  · obtain ⟨cl2, Ar2, -, S2, M2, H2, -⟩ := id A_a1
    have hin2 := inb_of (j := (3 : Int32)) S2 (by decide)
    have hat2 := H2.at hin2 (v := (.int c3)) (rfl)
    have st4 : ∀ t, Steps p.tables e below (s₁.setTop (mkF m 25 #[.val (.ref a1), .val (.int (3 : Int32)), .val (.int p3), .val (.int p4), .val (.int p5), .val (.int p6), .unset, .unset, .unset] [(.int (if c3 = p6 then (1 : Int32) else (0 : Int32)))])) t → Steps p.tables e below (s₁.setTop (mkF m 17 #[.val (.ref a1), .val (.int (3 : Int32)), .val (.int p3), .val (.int p4), .val (.int p5), .val (.int p6), .unset, .unset, .unset] [(.int p6), (.int c3)])) t := by
      intro t k
      by_cases h3 : c3 = p6
      · rw [show (if c3 = p6 then (1 : Int32) else (0 : Int32)) = (1 : Int32) from if_pos h3] at k
        show Steps p.tables e below (s₁.setTop (mkF m 17 #[.val (.ref a1), .val (.int (3 : Int32)), .val (.int p3), .val (.int p4), .val (.int p5), .val (.int p6), .unset, .unset, .unset] [(.int p6), (.int c3)])) _
        refine XS.icmpNo X0.here hx rfl (hb hby d3_17) rfl (teq h3).2 ?_
        show Steps p.tables e below (s₁.setTop (mkF m 20 #[.val (.ref a1), .val (.int (3 : Int32)), .val (.int p3), .val (.int p4), .val (.int p5), .val (.int p6), .unset, .unset, .unset] [])) _
        refine XS.iconst X0.here hx rfl (hb hby d3_20) ?_
        show Steps p.tables e below (s₁.setTop (mkF m 21 #[.val (.ref a1), .val (.int (3 : Int32)), .val (.int p3), .val (.int p4), .val (.int p5), .val (.int p6), .unset, .unset, .unset] [(.int (1 : Int32))])) _
        refine XS.goto X0.here hx rfl (pc0 := 21) (pc' := 25) rfl (hb hby d3_21) (by decide) (by decide) ?_
        exact k
      · rw [show (if c3 = p6 then (1 : Int32) else (0 : Int32)) = (0 : Int32) from if_neg h3] at k
        show Steps p.tables e below (s₁.setTop (mkF m 17 #[.val (.ref a1), .val (.int (3 : Int32)), .val (.int p3), .val (.int p4), .val (.int p5), .val (.int p6), .unset, .unset, .unset] [(.int p6), (.int c3)])) _
        refine XS.icmpYes X0.here hx rfl (pc0 := 17) (pc' := 24) rfl (hb hby d3_17) rfl (feq h3).2 (by decide) (by decide) ?_
        show Steps p.tables e below (s₁.setTop (mkF m 24 #[.val (.ref a1), .val (.int (3 : Int32)), .val (.int p3), .val (.int p4), .val (.int p5), .val (.int p6), .unset, .unset, .unset] [])) _
        refine XS.iconst X0.here hx rfl (hb hby d3_24) ?_
        exact k
    obtain ⟨fs, hr, hrun, hended, hW, hsame⟩ := X0.leave (v := some (.int ((if c3 = p6 then (1 : Int32) else (0 : Int32)) &&& 1))) (fun h => by rw [Bd.returns] at h; cases h)
    refine ⟨_, _, ?_, hrun, hended, _, _, rfl, ?_, ⟨_, rfl⟩, hW, hsame.mono (by decide) (by decide)⟩
    · show Steps p.tables e below (s₁.setTop (mkF m 2 #[.val (.ref a1), .val (.int (3 : Int32)), .val (.int p3), .val (.int p4), .val (.int p5), .val (.int p6), .unset, .unset, .unset] [(.int p3), (.int (3 : Int32))])) _
      refine XS.icmpYes X0.here hx rfl (pc0 := 2) (pc' := 12) rfl (hb hby d3_2) rfl (tlt h1).1 (by decide) (by decide) ?_
      show Steps p.tables e below (s₁.setTop (mkF m 12 #[.val (.ref a1), .val (.int (3 : Int32)), .val (.int p3), .val (.int p4), .val (.int p5), .val (.int p6), .unset, .unset, .unset] [])) _
      refine XS.aloadN X0.here hx rfl (hb hby d3_12) rfl rfl ?_
      show Steps p.tables e below (s₁.setTop (mkF m 13 #[.val (.ref a1), .val (.int (3 : Int32)), .val (.int p3), .val (.int p4), .val (.int p5), .val (.int p6), .unset, .unset, .unset] [(.ref a1)])) _
      refine XS.iloadN X0.here hx rfl (hb hby d3_13) rfl ?_
      show Steps p.tables e below (s₁.setTop (mkF m 14 #[.val (.ref a1), .val (.int (3 : Int32)), .val (.int p3), .val (.int p4), .val (.int p5), .val (.int p6), .unset, .unset, .unset] [(.int (3 : Int32)), (.ref a1)])) _
      refine X0.baloadBytes hx (j := (3 : Int32)) (v := (.int c3)) (by rw [e0]; exact Ar2.1) (State.isArrayOf_alike hZ.alike Ar2.2.1) Ar2.2.2 hin2 hat2 (g := (mkF m 14 #[.val (.ref a1), .val (.int (3 : Int32)), .val (.int p3), .val (.int p4), .val (.int p5), .val (.int p6), .unset, .unset, .unset] [(.int (3 : Int32)), (.ref a1)])) rfl rfl (hb hby d3_14) _ ?_
      show Steps p.tables e below (s₁.setTop (mkF m 15 #[.val (.ref a1), .val (.int (3 : Int32)), .val (.int p3), .val (.int p4), .val (.int p5), .val (.int p6), .unset, .unset, .unset] [(.int c3)])) _
      refine XS.iload X0.here hx rfl (hb hby d3_15) rfl ?_
      show Steps p.tables e below (s₁.setTop (mkF m 17 #[.val (.ref a1), .val (.int (3 : Int32)), .val (.int p3), .val (.int p4), .val (.int p5), .val (.int p6), .unset, .unset, .unset] [(.int p6), (.int c3)])) _
      refine st4 _ ?_
      show Steps p.tables e below (s₁.setTop (mkF m 25 #[.val (.ref a1), .val (.int (3 : Int32)), .val (.int p3), .val (.int p4), .val (.int p5), .val (.int p6), .unset, .unset, .unset] [(.int (if c3 = p6 then (1 : Int32) else (0 : Int32)))])) _
      exact retN X0 hx (t := .boolean) Bd.returns (by simp) (hb hby d3_25) hr
    · show Qok3 Z a1 p3 p4 p5 p6 k1 c0 c1 c2 c3 c4 c5 c6 c7 c8 h0 n0 _ s₁.heap _
      rw [e0]
      have hf : fok3 p3 p4 p5 p6 c0 c1 c2 c3 c4 c5 c6 c7 c8 = ((if c3 = p6 then (1 : Int32) else (0 : Int32)) &&& 1) := by simp only [fok3, if_pos h1]
      exact ⟨by rw [hf], N0, rfl⟩
  · refine own_step (B := s₁.setTop (mkF m 9 #[.val (.ref a1), .val (.int (3 : Int32)), .val (.int p3), .val (.int p4), .val (.int p5), .val (.int p6), .unset, .unset, .unset] [(.int (p3 + p4)), (.int (3 : Int32))])) (fun t k => ?_) ?_
    · show Steps p.tables e below (s₁.setTop (mkF m 2 #[.val (.ref a1), .val (.int (3 : Int32)), .val (.int p3), .val (.int p4), .val (.int p5), .val (.int p6), .unset, .unset, .unset] [(.int p3), (.int (3 : Int32))])) _
      refine XS.icmpNo X0.here hx rfl (hb hby d3_2) rfl (flt h1).1 ?_
      show Steps p.tables e below (s₁.setTop (mkF m 5 #[.val (.ref a1), .val (.int (3 : Int32)), .val (.int p3), .val (.int p4), .val (.int p5), .val (.int p6), .unset, .unset, .unset] [])) _
      refine XS.iloadN X0.here hx rfl (hb hby d3_5) rfl ?_
      show Steps p.tables e below (s₁.setTop (mkF m 6 #[.val (.ref a1), .val (.int (3 : Int32)), .val (.int p3), .val (.int p4), .val (.int p5), .val (.int p6), .unset, .unset, .unset] [(.int (3 : Int32))])) _
      refine XS.iloadN X0.here hx rfl (hb hby d3_6) rfl ?_
      show Steps p.tables e below (s₁.setTop (mkF m 7 #[.val (.ref a1), .val (.int (3 : Int32)), .val (.int p3), .val (.int p4), .val (.int p5), .val (.int p6), .unset, .unset, .unset] [(.int p3), (.int (3 : Int32))])) _
      refine XS.iloadN X0.here hx rfl (hb hby d3_7) rfl ?_
      show Steps p.tables e below (s₁.setTop (mkF m 8 #[.val (.ref a1), .val (.int (3 : Int32)), .val (.int p3), .val (.int p4), .val (.int p5), .val (.int p6), .unset, .unset, .unset] [(.int p4), (.int p3), (.int (3 : Int32))])) _
      refine XS.iadd X0.here hx rfl (hb hby d3_8) rfl ?_
      exact k
    by_cases h5 : (3 : Int32) < (p3 + p4)
    · have st7 : ∀ t, Steps p.tables e below (s₁.setTop (mkF m 63 #[.val (.ref a1), .val (.int (3 : Int32)), .val (.int p3), .val (.int p4), .val (.int p5), .val (.int p6), .val (.int ((3 : Int32) - p3)), .val (.int ((XT.ushr p5 ((7 : Int32) * ((3 : Int32) - p3))) &&& (127 : Int32))), .unset] [(.int (fok3_0 p3 p4 p5 p6 c0 c1 c2 c3 c4 c5 c6 c7 c8))])) t → Steps p.tables e below (s₁.setTop (mkF m 49 #[.val (.ref a1), .val (.int (3 : Int32)), .val (.int p3), .val (.int p4), .val (.int p5), .val (.int p6), .val (.int ((3 : Int32) - p3)), .val (.int ((XT.ushr p5 ((7 : Int32) * ((3 : Int32) - p3))) &&& (127 : Int32))), .unset] [(.int (p4 - (1 : Int32))), (.int ((3 : Int32) - p3))])) t := by
        intro t k
        by_cases h6 : ((3 : Int32) - p3) < (p4 - (1 : Int32))
        · rw [show (fok3_0 p3 p4 p5 p6 c0 c1 c2 c3 c4 c5 c6 c7 c8) = (((XT.ushr p5 ((7 : Int32) * ((3 : Int32) - p3))) &&& (127 : Int32)) ||| (128 : Int32)) from if_pos h6] at k
          show Steps p.tables e below (s₁.setTop (mkF m 49 #[.val (.ref a1), .val (.int (3 : Int32)), .val (.int p3), .val (.int p4), .val (.int p5), .val (.int p6), .val (.int ((3 : Int32) - p3)), .val (.int ((XT.ushr p5 ((7 : Int32) * ((3 : Int32) - p3))) &&& (127 : Int32))), .unset] [(.int (p4 - (1 : Int32))), (.int ((3 : Int32) - p3))])) _
          refine XS.icmpNo X0.here hx rfl (hb hby d3_49) rfl (tlt h6).2.1 ?_
          show Steps p.tables e below (s₁.setTop (mkF m 52 #[.val (.ref a1), .val (.int (3 : Int32)), .val (.int p3), .val (.int p4), .val (.int p5), .val (.int p6), .val (.int ((3 : Int32) - p3)), .val (.int ((XT.ushr p5 ((7 : Int32) * ((3 : Int32) - p3))) &&& (127 : Int32))), .unset] [])) _
          refine XS.iload X0.here hx rfl (hb hby d3_52) rfl ?_
          show Steps p.tables e below (s₁.setTop (mkF m 54 #[.val (.ref a1), .val (.int (3 : Int32)), .val (.int p3), .val (.int p4), .val (.int p5), .val (.int p6), .val (.int ((3 : Int32) - p3)), .val (.int ((XT.ushr p5 ((7 : Int32) * ((3 : Int32) - p3))) &&& (127 : Int32))), .unset] [(.int ((XT.ushr p5 ((7 : Int32) * ((3 : Int32) - p3))) &&& (127 : Int32)))])) _
          refine XS.sipush X0.here hx rfl (hb hby d3_54) ?_
          show Steps p.tables e below (s₁.setTop (mkF m 57 #[.val (.ref a1), .val (.int (3 : Int32)), .val (.int p3), .val (.int p4), .val (.int p5), .val (.int p6), .val (.int ((3 : Int32) - p3)), .val (.int ((XT.ushr p5 ((7 : Int32) * ((3 : Int32) - p3))) &&& (127 : Int32))), .unset] [(.int (128 : Int32)), (.int ((XT.ushr p5 ((7 : Int32) * ((3 : Int32) - p3))) &&& (127 : Int32)))])) _
          refine XT.ior X0.here hx rfl (hb hby d3_57) rfl ?_
          show Steps p.tables e below (s₁.setTop (mkF m 58 #[.val (.ref a1), .val (.int (3 : Int32)), .val (.int p3), .val (.int p4), .val (.int p5), .val (.int p6), .val (.int ((3 : Int32) - p3)), .val (.int ((XT.ushr p5 ((7 : Int32) * ((3 : Int32) - p3))) &&& (127 : Int32))), .unset] [(.int (((XT.ushr p5 ((7 : Int32) * ((3 : Int32) - p3))) &&& (127 : Int32)) ||| (128 : Int32)))])) _
          refine XS.goto X0.here hx rfl (pc0 := 58) (pc' := 63) rfl (hb hby d3_58) (by decide) (by decide) ?_
          exact k
        · rw [show (fok3_0 p3 p4 p5 p6 c0 c1 c2 c3 c4 c5 c6 c7 c8) = ((XT.ushr p5 ((7 : Int32) * ((3 : Int32) - p3))) &&& (127 : Int32)) from if_neg h6] at k
          show Steps p.tables e below (s₁.setTop (mkF m 49 #[.val (.ref a1), .val (.int (3 : Int32)), .val (.int p3), .val (.int p4), .val (.int p5), .val (.int p6), .val (.int ((3 : Int32) - p3)), .val (.int ((XT.ushr p5 ((7 : Int32) * ((3 : Int32) - p3))) &&& (127 : Int32))), .unset] [(.int (p4 - (1 : Int32))), (.int ((3 : Int32) - p3))])) _
          refine XS.icmpYes X0.here hx rfl (pc0 := 49) (pc' := 61) rfl (hb hby d3_49) rfl (flt h6).2.1 (by decide) (by decide) ?_
          show Steps p.tables e below (s₁.setTop (mkF m 61 #[.val (.ref a1), .val (.int (3 : Int32)), .val (.int p3), .val (.int p4), .val (.int p5), .val (.int p6), .val (.int ((3 : Int32) - p3)), .val (.int ((XT.ushr p5 ((7 : Int32) * ((3 : Int32) - p3))) &&& (127 : Int32))), .unset] [])) _
          refine XS.iload X0.here hx rfl (hb hby d3_61) rfl ?_
          exact k
      obtain ⟨cl8, Ar8, -, S8, M8, H8, -⟩ := id A_a1
      have hin8 := inb_of (j := (3 : Int32)) S8 (by decide)
      have hat8 := H8.at hin8 (v := (.int c3)) (rfl)
      have st10 : ∀ t, Steps p.tables e below (s₁.setTop (mkF m 79 #[.val (.ref a1), .val (.int (3 : Int32)), .val (.int p3), .val (.int p4), .val (.int p5), .val (.int p6), .val (.int ((3 : Int32) - p3)), .val (.int ((XT.ushr p5 ((7 : Int32) * ((3 : Int32) - p3))) &&& (127 : Int32))), .val (.int (fok3_0 p3 p4 p5 p6 c0 c1 c2 c3 c4 c5 c6 c7 c8))] [(.int (fok3_1 p3 p4 p5 p6 c0 c1 c2 c3 c4 c5 c6 c7 c8))])) t → Steps p.tables e below (s₁.setTop (mkF m 71 #[.val (.ref a1), .val (.int (3 : Int32)), .val (.int p3), .val (.int p4), .val (.int p5), .val (.int p6), .val (.int ((3 : Int32) - p3)), .val (.int ((XT.ushr p5 ((7 : Int32) * ((3 : Int32) - p3))) &&& (127 : Int32))), .val (.int (fok3_0 p3 p4 p5 p6 c0 c1 c2 c3 c4 c5 c6 c7 c8))] [(.int (fok3_0 p3 p4 p5 p6 c0 c1 c2 c3 c4 c5 c6 c7 c8).toInt8.toInt32), (.int c3)])) t := by
        intro t k
        by_cases h9 : c3 = (fok3_0 p3 p4 p5 p6 c0 c1 c2 c3 c4 c5 c6 c7 c8).toInt8.toInt32
        · rw [show (fok3_1 p3 p4 p5 p6 c0 c1 c2 c3 c4 c5 c6 c7 c8) = (1 : Int32) from if_pos h9] at k
          show Steps p.tables e below (s₁.setTop (mkF m 71 #[.val (.ref a1), .val (.int (3 : Int32)), .val (.int p3), .val (.int p4), .val (.int p5), .val (.int p6), .val (.int ((3 : Int32) - p3)), .val (.int ((XT.ushr p5 ((7 : Int32) * ((3 : Int32) - p3))) &&& (127 : Int32))), .val (.int (fok3_0 p3 p4 p5 p6 c0 c1 c2 c3 c4 c5 c6 c7 c8))] [(.int (fok3_0 p3 p4 p5 p6 c0 c1 c2 c3 c4 c5 c6 c7 c8).toInt8.toInt32), (.int c3)])) _
          refine XS.icmpNo X0.here hx rfl (hb hby d3_71) rfl (teq h9).2 ?_
          show Steps p.tables e below (s₁.setTop (mkF m 74 #[.val (.ref a1), .val (.int (3 : Int32)), .val (.int p3), .val (.int p4), .val (.int p5), .val (.int p6), .val (.int ((3 : Int32) - p3)), .val (.int ((XT.ushr p5 ((7 : Int32) * ((3 : Int32) - p3))) &&& (127 : Int32))), .val (.int (fok3_0 p3 p4 p5 p6 c0 c1 c2 c3 c4 c5 c6 c7 c8))] [])) _
          refine XS.iconst X0.here hx rfl (hb hby d3_74) ?_
          show Steps p.tables e below (s₁.setTop (mkF m 75 #[.val (.ref a1), .val (.int (3 : Int32)), .val (.int p3), .val (.int p4), .val (.int p5), .val (.int p6), .val (.int ((3 : Int32) - p3)), .val (.int ((XT.ushr p5 ((7 : Int32) * ((3 : Int32) - p3))) &&& (127 : Int32))), .val (.int (fok3_0 p3 p4 p5 p6 c0 c1 c2 c3 c4 c5 c6 c7 c8))] [(.int (1 : Int32))])) _
          refine XS.goto X0.here hx rfl (pc0 := 75) (pc' := 79) rfl (hb hby d3_75) (by decide) (by decide) ?_
          exact k
        · rw [show (fok3_1 p3 p4 p5 p6 c0 c1 c2 c3 c4 c5 c6 c7 c8) = (0 : Int32) from if_neg h9] at k
          show Steps p.tables e below (s₁.setTop (mkF m 71 #[.val (.ref a1), .val (.int (3 : Int32)), .val (.int p3), .val (.int p4), .val (.int p5), .val (.int p6), .val (.int ((3 : Int32) - p3)), .val (.int ((XT.ushr p5 ((7 : Int32) * ((3 : Int32) - p3))) &&& (127 : Int32))), .val (.int (fok3_0 p3 p4 p5 p6 c0 c1 c2 c3 c4 c5 c6 c7 c8))] [(.int (fok3_0 p3 p4 p5 p6 c0 c1 c2 c3 c4 c5 c6 c7 c8).toInt8.toInt32), (.int c3)])) _
          refine XS.icmpYes X0.here hx rfl (pc0 := 71) (pc' := 78) rfl (hb hby d3_71) rfl (feq h9).2 (by decide) (by decide) ?_
          show Steps p.tables e below (s₁.setTop (mkF m 78 #[.val (.ref a1), .val (.int (3 : Int32)), .val (.int p3), .val (.int p4), .val (.int p5), .val (.int p6), .val (.int ((3 : Int32) - p3)), .val (.int ((XT.ushr p5 ((7 : Int32) * ((3 : Int32) - p3))) &&& (127 : Int32))), .val (.int (fok3_0 p3 p4 p5 p6 c0 c1 c2 c3 c4 c5 c6 c7 c8))] [])) _
          refine XS.iconst X0.here hx rfl (hb hby d3_78) ?_
          exact k
      obtain ⟨fs, hr, hrun, hended, hW, hsame⟩ := X0.leave (v := some (.int ((fok3_1 p3 p4 p5 p6 c0 c1 c2 c3 c4 c5 c6 c7 c8) &&& 1))) (fun h => by rw [Bd.returns] at h; cases h)
      refine ⟨_, _, ?_, hrun, hended, _, _, rfl, ?_, ⟨_, rfl⟩, hW, hsame.mono (by decide) (by decide)⟩
      · show Steps p.tables e below (s₁.setTop (mkF m 9 #[.val (.ref a1), .val (.int (3 : Int32)), .val (.int p3), .val (.int p4), .val (.int p5), .val (.int p6), .unset, .unset, .unset] [(.int (p3 + p4)), (.int (3 : Int32))])) _
        refine XS.icmpYes X0.here hx rfl (pc0 := 9) (pc' := 26) rfl (hb hby d3_9) rfl (tlt h5).1 (by decide) (by decide) ?_
        show Steps p.tables e below (s₁.setTop (mkF m 26 #[.val (.ref a1), .val (.int (3 : Int32)), .val (.int p3), .val (.int p4), .val (.int p5), .val (.int p6), .unset, .unset, .unset] [])) _
        refine XS.iloadN X0.here hx rfl (hb hby d3_26) rfl ?_
        show Steps p.tables e below (s₁.setTop (mkF m 27 #[.val (.ref a1), .val (.int (3 : Int32)), .val (.int p3), .val (.int p4), .val (.int p5), .val (.int p6), .unset, .unset, .unset] [(.int (3 : Int32))])) _
        refine XS.iloadN X0.here hx rfl (hb hby d3_27) rfl ?_
        show Steps p.tables e below (s₁.setTop (mkF m 28 #[.val (.ref a1), .val (.int (3 : Int32)), .val (.int p3), .val (.int p4), .val (.int p5), .val (.int p6), .unset, .unset, .unset] [(.int p3), (.int (3 : Int32))])) _
        refine XS.isub X0.here hx rfl (hb hby d3_28) rfl ?_
        show Steps p.tables e below (s₁.setTop (mkF m 29 #[.val (.ref a1), .val (.int (3 : Int32)), .val (.int p3), .val (.int p4), .val (.int p5), .val (.int p6), .unset, .unset, .unset] [(.int ((3 : Int32) - p3))])) _
        refine XS.istore X0.here hx rfl (hb hby d3_29) rfl (l' := #[.val (.ref a1), .val (.int (3 : Int32)), .val (.int p3), .val (.int p4), .val (.int p5), .val (.int p6), .val (.int ((3 : Int32) - p3)), .unset, .unset]) rfl ?_
        show Steps p.tables e below (s₁.setTop (mkF m 31 #[.val (.ref a1), .val (.int (3 : Int32)), .val (.int p3), .val (.int p4), .val (.int p5), .val (.int p6), .val (.int ((3 : Int32) - p3)), .unset, .unset] [])) _
        refine XS.iload X0.here hx rfl (hb hby d3_31) rfl ?_
        show Steps p.tables e below (s₁.setTop (mkF m 33 #[.val (.ref a1), .val (.int (3 : Int32)), .val (.int p3), .val (.int p4), .val (.int p5), .val (.int p6), .val (.int ((3 : Int32) - p3)), .unset, .unset] [(.int p5)])) _
        refine XS.bipush X0.here hx rfl (hb hby d3_33) ?_
        show Steps p.tables e below (s₁.setTop (mkF m 35 #[.val (.ref a1), .val (.int (3 : Int32)), .val (.int p3), .val (.int p4), .val (.int p5), .val (.int p6), .val (.int ((3 : Int32) - p3)), .unset, .unset] [(.int (7 : Int32)), (.int p5)])) _
        refine XS.iload X0.here hx rfl (hb hby d3_35) rfl ?_
        show Steps p.tables e below (s₁.setTop (mkF m 37 #[.val (.ref a1), .val (.int (3 : Int32)), .val (.int p3), .val (.int p4), .val (.int p5), .val (.int p6), .val (.int ((3 : Int32) - p3)), .unset, .unset] [(.int ((3 : Int32) - p3)), (.int (7 : Int32)), (.int p5)])) _
        refine XS.imul X0.here hx rfl (hb hby d3_37) rfl ?_
        show Steps p.tables e below (s₁.setTop (mkF m 38 #[.val (.ref a1), .val (.int (3 : Int32)), .val (.int p3), .val (.int p4), .val (.int p5), .val (.int p6), .val (.int ((3 : Int32) - p3)), .unset, .unset] [(.int ((7 : Int32) * ((3 : Int32) - p3))), (.int p5)])) _
        refine XT.iushr X0.here hx rfl (hb hby d3_38) rfl ?_
        show Steps p.tables e below (s₁.setTop (mkF m 39 #[.val (.ref a1), .val (.int (3 : Int32)), .val (.int p3), .val (.int p4), .val (.int p5), .val (.int p6), .val (.int ((3 : Int32) - p3)), .unset, .unset] [(.int (XT.ushr p5 ((7 : Int32) * ((3 : Int32) - p3))))])) _
        refine XS.bipush X0.here hx rfl (hb hby d3_39) ?_
        show Steps p.tables e below (s₁.setTop (mkF m 41 #[.val (.ref a1), .val (.int (3 : Int32)), .val (.int p3), .val (.int p4), .val (.int p5), .val (.int p6), .val (.int ((3 : Int32) - p3)), .unset, .unset] [(.int (127 : Int32)), (.int (XT.ushr p5 ((7 : Int32) * ((3 : Int32) - p3))))])) _
        refine XS.iand X0.here hx rfl (hb hby d3_41) rfl ?_
        show Steps p.tables e below (s₁.setTop (mkF m 42 #[.val (.ref a1), .val (.int (3 : Int32)), .val (.int p3), .val (.int p4), .val (.int p5), .val (.int p6), .val (.int ((3 : Int32) - p3)), .unset, .unset] [(.int ((XT.ushr p5 ((7 : Int32) * ((3 : Int32) - p3))) &&& (127 : Int32)))])) _
        refine XS.istore X0.here hx rfl (hb hby d3_42) rfl (l' := #[.val (.ref a1), .val (.int (3 : Int32)), .val (.int p3), .val (.int p4), .val (.int p5), .val (.int p6), .val (.int ((3 : Int32) - p3)), .val (.int ((XT.ushr p5 ((7 : Int32) * ((3 : Int32) - p3))) &&& (127 : Int32))), .unset]) rfl ?_
        show Steps p.tables e below (s₁.setTop (mkF m 44 #[.val (.ref a1), .val (.int (3 : Int32)), .val (.int p3), .val (.int p4), .val (.int p5), .val (.int p6), .val (.int ((3 : Int32) - p3)), .val (.int ((XT.ushr p5 ((7 : Int32) * ((3 : Int32) - p3))) &&& (127 : Int32))), .unset] [])) _
        refine XS.iload X0.here hx rfl (hb hby d3_44) rfl ?_
        show Steps p.tables e below (s₁.setTop (mkF m 46 #[.val (.ref a1), .val (.int (3 : Int32)), .val (.int p3), .val (.int p4), .val (.int p5), .val (.int p6), .val (.int ((3 : Int32) - p3)), .val (.int ((XT.ushr p5 ((7 : Int32) * ((3 : Int32) - p3))) &&& (127 : Int32))), .unset] [(.int ((3 : Int32) - p3))])) _
        refine XS.iloadN X0.here hx rfl (hb hby d3_46) rfl ?_
        show Steps p.tables e below (s₁.setTop (mkF m 47 #[.val (.ref a1), .val (.int (3 : Int32)), .val (.int p3), .val (.int p4), .val (.int p5), .val (.int p6), .val (.int ((3 : Int32) - p3)), .val (.int ((XT.ushr p5 ((7 : Int32) * ((3 : Int32) - p3))) &&& (127 : Int32))), .unset] [(.int p4), (.int ((3 : Int32) - p3))])) _
        refine XS.iconst X0.here hx rfl (hb hby d3_47) ?_
        show Steps p.tables e below (s₁.setTop (mkF m 48 #[.val (.ref a1), .val (.int (3 : Int32)), .val (.int p3), .val (.int p4), .val (.int p5), .val (.int p6), .val (.int ((3 : Int32) - p3)), .val (.int ((XT.ushr p5 ((7 : Int32) * ((3 : Int32) - p3))) &&& (127 : Int32))), .unset] [(.int (1 : Int32)), (.int p4), (.int ((3 : Int32) - p3))])) _
        refine XS.isub X0.here hx rfl (hb hby d3_48) rfl ?_
        show Steps p.tables e below (s₁.setTop (mkF m 49 #[.val (.ref a1), .val (.int (3 : Int32)), .val (.int p3), .val (.int p4), .val (.int p5), .val (.int p6), .val (.int ((3 : Int32) - p3)), .val (.int ((XT.ushr p5 ((7 : Int32) * ((3 : Int32) - p3))) &&& (127 : Int32))), .unset] [(.int (p4 - (1 : Int32))), (.int ((3 : Int32) - p3))])) _
        refine st7 _ ?_
        show Steps p.tables e below (s₁.setTop (mkF m 63 #[.val (.ref a1), .val (.int (3 : Int32)), .val (.int p3), .val (.int p4), .val (.int p5), .val (.int p6), .val (.int ((3 : Int32) - p3)), .val (.int ((XT.ushr p5 ((7 : Int32) * ((3 : Int32) - p3))) &&& (127 : Int32))), .unset] [(.int (fok3_0 p3 p4 p5 p6 c0 c1 c2 c3 c4 c5 c6 c7 c8))])) _
        refine XS.istore X0.here hx rfl (hb hby d3_63) rfl (l' := #[.val (.ref a1), .val (.int (3 : Int32)), .val (.int p3), .val (.int p4), .val (.int p5), .val (.int p6), .val (.int ((3 : Int32) - p3)), .val (.int ((XT.ushr p5 ((7 : Int32) * ((3 : Int32) - p3))) &&& (127 : Int32))), .val (.int (fok3_0 p3 p4 p5 p6 c0 c1 c2 c3 c4 c5 c6 c7 c8))]) rfl ?_
        show Steps p.tables e below (s₁.setTop (mkF m 65 #[.val (.ref a1), .val (.int (3 : Int32)), .val (.int p3), .val (.int p4), .val (.int p5), .val (.int p6), .val (.int ((3 : Int32) - p3)), .val (.int ((XT.ushr p5 ((7 : Int32) * ((3 : Int32) - p3))) &&& (127 : Int32))), .val (.int (fok3_0 p3 p4 p5 p6 c0 c1 c2 c3 c4 c5 c6 c7 c8))] [])) _
        refine XS.aloadN X0.here hx rfl (hb hby d3_65) rfl rfl ?_
        show Steps p.tables e below (s₁.setTop (mkF m 66 #[.val (.ref a1), .val (.int (3 : Int32)), .val (.int p3), .val (.int p4), .val (.int p5), .val (.int p6), .val (.int ((3 : Int32) - p3)), .val (.int ((XT.ushr p5 ((7 : Int32) * ((3 : Int32) - p3))) &&& (127 : Int32))), .val (.int (fok3_0 p3 p4 p5 p6 c0 c1 c2 c3 c4 c5 c6 c7 c8))] [(.ref a1)])) _
        refine XS.iloadN X0.here hx rfl (hb hby d3_66) rfl ?_
        show Steps p.tables e below (s₁.setTop (mkF m 67 #[.val (.ref a1), .val (.int (3 : Int32)), .val (.int p3), .val (.int p4), .val (.int p5), .val (.int p6), .val (.int ((3 : Int32) - p3)), .val (.int ((XT.ushr p5 ((7 : Int32) * ((3 : Int32) - p3))) &&& (127 : Int32))), .val (.int (fok3_0 p3 p4 p5 p6 c0 c1 c2 c3 c4 c5 c6 c7 c8))] [(.int (3 : Int32)), (.ref a1)])) _
        refine X0.baloadBytes hx (j := (3 : Int32)) (v := (.int c3)) (by rw [e0]; exact Ar8.1) (State.isArrayOf_alike hZ.alike Ar8.2.1) Ar8.2.2 hin8 hat8 (g := (mkF m 67 #[.val (.ref a1), .val (.int (3 : Int32)), .val (.int p3), .val (.int p4), .val (.int p5), .val (.int p6), .val (.int ((3 : Int32) - p3)), .val (.int ((XT.ushr p5 ((7 : Int32) * ((3 : Int32) - p3))) &&& (127 : Int32))), .val (.int (fok3_0 p3 p4 p5 p6 c0 c1 c2 c3 c4 c5 c6 c7 c8))] [(.int (3 : Int32)), (.ref a1)])) rfl rfl (hb hby d3_67) _ ?_
        show Steps p.tables e below (s₁.setTop (mkF m 68 #[.val (.ref a1), .val (.int (3 : Int32)), .val (.int p3), .val (.int p4), .val (.int p5), .val (.int p6), .val (.int ((3 : Int32) - p3)), .val (.int ((XT.ushr p5 ((7 : Int32) * ((3 : Int32) - p3))) &&& (127 : Int32))), .val (.int (fok3_0 p3 p4 p5 p6 c0 c1 c2 c3 c4 c5 c6 c7 c8))] [(.int c3)])) _
        refine XS.iload X0.here hx rfl (hb hby d3_68) rfl ?_
        show Steps p.tables e below (s₁.setTop (mkF m 70 #[.val (.ref a1), .val (.int (3 : Int32)), .val (.int p3), .val (.int p4), .val (.int p5), .val (.int p6), .val (.int ((3 : Int32) - p3)), .val (.int ((XT.ushr p5 ((7 : Int32) * ((3 : Int32) - p3))) &&& (127 : Int32))), .val (.int (fok3_0 p3 p4 p5 p6 c0 c1 c2 c3 c4 c5 c6 c7 c8))] [(.int (fok3_0 p3 p4 p5 p6 c0 c1 c2 c3 c4 c5 c6 c7 c8)), (.int c3)])) _
        refine XT.i2b X0.here hx rfl (hb hby d3_70) rfl ?_
        show Steps p.tables e below (s₁.setTop (mkF m 71 #[.val (.ref a1), .val (.int (3 : Int32)), .val (.int p3), .val (.int p4), .val (.int p5), .val (.int p6), .val (.int ((3 : Int32) - p3)), .val (.int ((XT.ushr p5 ((7 : Int32) * ((3 : Int32) - p3))) &&& (127 : Int32))), .val (.int (fok3_0 p3 p4 p5 p6 c0 c1 c2 c3 c4 c5 c6 c7 c8))] [(.int (fok3_0 p3 p4 p5 p6 c0 c1 c2 c3 c4 c5 c6 c7 c8).toInt8.toInt32), (.int c3)])) _
        refine st10 _ ?_
        show Steps p.tables e below (s₁.setTop (mkF m 79 #[.val (.ref a1), .val (.int (3 : Int32)), .val (.int p3), .val (.int p4), .val (.int p5), .val (.int p6), .val (.int ((3 : Int32) - p3)), .val (.int ((XT.ushr p5 ((7 : Int32) * ((3 : Int32) - p3))) &&& (127 : Int32))), .val (.int (fok3_0 p3 p4 p5 p6 c0 c1 c2 c3 c4 c5 c6 c7 c8))] [(.int (fok3_1 p3 p4 p5 p6 c0 c1 c2 c3 c4 c5 c6 c7 c8))])) _
        exact retN X0 hx (t := .boolean) Bd.returns (by simp) (hb hby d3_79) hr
      · show Qok3 Z a1 p3 p4 p5 p6 k1 c0 c1 c2 c3 c4 c5 c6 c7 c8 h0 n0 _ s₁.heap _
        rw [e0]
        have hf : fok3 p3 p4 p5 p6 c0 c1 c2 c3 c4 c5 c6 c7 c8 = ((fok3_1 p3 p4 p5 p6 c0 c1 c2 c3 c4 c5 c6 c7 c8) &&& 1) := by simp only [fok3, if_neg h1, if_pos h5]
        exact ⟨by rw [hf], N0, rfl⟩
    · obtain ⟨cl11, Ar11, -, S11, M11, H11, -⟩ := id A_a1
      have hin11 := inb_of (j := (3 : Int32)) S11 (by decide)
      have hat11 := H11.at hin11 (v := (.int c3)) (rfl)
      have st13 : ∀ t, Steps p.tables e below (s₁.setTop (mkF m 25 #[.val (.ref a1), .val (.int (3 : Int32)), .val (.int p3), .val (.int p4), .val (.int p5), .val (.int p6), .unset, .unset, .unset] [(.int (if c3 = p6 then (1 : Int32) else (0 : Int32)))])) t → Steps p.tables e below (s₁.setTop (mkF m 17 #[.val (.ref a1), .val (.int (3 : Int32)), .val (.int p3), .val (.int p4), .val (.int p5), .val (.int p6), .unset, .unset, .unset] [(.int p6), (.int c3)])) t := by
        intro t k
        by_cases h12 : c3 = p6
        · rw [show (if c3 = p6 then (1 : Int32) else (0 : Int32)) = (1 : Int32) from if_pos h12] at k
          show Steps p.tables e below (s₁.setTop (mkF m 17 #[.val (.ref a1), .val (.int (3 : Int32)), .val (.int p3), .val (.int p4), .val (.int p5), .val (.int p6), .unset, .unset, .unset] [(.int p6), (.int c3)])) _
          refine XS.icmpNo X0.here hx rfl (hb hby d3_17) rfl (teq h12).2 ?_
          show Steps p.tables e below (s₁.setTop (mkF m 20 #[.val (.ref a1), .val (.int (3 : Int32)), .val (.int p3), .val (.int p4), .val (.int p5), .val (.int p6), .unset, .unset, .unset] [])) _
          refine XS.iconst X0.here hx rfl (hb hby d3_20) ?_
          show Steps p.tables e below (s₁.setTop (mkF m 21 #[.val (.ref a1), .val (.int (3 : Int32)), .val (.int p3), .val (.int p4), .val (.int p5), .val (.int p6), .unset, .unset, .unset] [(.int (1 : Int32))])) _
          refine XS.goto X0.here hx rfl (pc0 := 21) (pc' := 25) rfl (hb hby d3_21) (by decide) (by decide) ?_
          exact k
        · rw [show (if c3 = p6 then (1 : Int32) else (0 : Int32)) = (0 : Int32) from if_neg h12] at k
          show Steps p.tables e below (s₁.setTop (mkF m 17 #[.val (.ref a1), .val (.int (3 : Int32)), .val (.int p3), .val (.int p4), .val (.int p5), .val (.int p6), .unset, .unset, .unset] [(.int p6), (.int c3)])) _
          refine XS.icmpYes X0.here hx rfl (pc0 := 17) (pc' := 24) rfl (hb hby d3_17) rfl (feq h12).2 (by decide) (by decide) ?_
          show Steps p.tables e below (s₁.setTop (mkF m 24 #[.val (.ref a1), .val (.int (3 : Int32)), .val (.int p3), .val (.int p4), .val (.int p5), .val (.int p6), .unset, .unset, .unset] [])) _
          refine XS.iconst X0.here hx rfl (hb hby d3_24) ?_
          exact k
      obtain ⟨fs, hr, hrun, hended, hW, hsame⟩ := X0.leave (v := some (.int ((if c3 = p6 then (1 : Int32) else (0 : Int32)) &&& 1))) (fun h => by rw [Bd.returns] at h; cases h)
      refine ⟨_, _, ?_, hrun, hended, _, _, rfl, ?_, ⟨_, rfl⟩, hW, hsame.mono (by decide) (by decide)⟩
      · show Steps p.tables e below (s₁.setTop (mkF m 9 #[.val (.ref a1), .val (.int (3 : Int32)), .val (.int p3), .val (.int p4), .val (.int p5), .val (.int p6), .unset, .unset, .unset] [(.int (p3 + p4)), (.int (3 : Int32))])) _
        refine XS.icmpNo X0.here hx rfl (hb hby d3_9) rfl (flt h5).1 ?_
        show Steps p.tables e below (s₁.setTop (mkF m 12 #[.val (.ref a1), .val (.int (3 : Int32)), .val (.int p3), .val (.int p4), .val (.int p5), .val (.int p6), .unset, .unset, .unset] [])) _
        refine XS.aloadN X0.here hx rfl (hb hby d3_12) rfl rfl ?_
        show Steps p.tables e below (s₁.setTop (mkF m 13 #[.val (.ref a1), .val (.int (3 : Int32)), .val (.int p3), .val (.int p4), .val (.int p5), .val (.int p6), .unset, .unset, .unset] [(.ref a1)])) _
        refine XS.iloadN X0.here hx rfl (hb hby d3_13) rfl ?_
        show Steps p.tables e below (s₁.setTop (mkF m 14 #[.val (.ref a1), .val (.int (3 : Int32)), .val (.int p3), .val (.int p4), .val (.int p5), .val (.int p6), .unset, .unset, .unset] [(.int (3 : Int32)), (.ref a1)])) _
        refine X0.baloadBytes hx (j := (3 : Int32)) (v := (.int c3)) (by rw [e0]; exact Ar11.1) (State.isArrayOf_alike hZ.alike Ar11.2.1) Ar11.2.2 hin11 hat11 (g := (mkF m 14 #[.val (.ref a1), .val (.int (3 : Int32)), .val (.int p3), .val (.int p4), .val (.int p5), .val (.int p6), .unset, .unset, .unset] [(.int (3 : Int32)), (.ref a1)])) rfl rfl (hb hby d3_14) _ ?_
        show Steps p.tables e below (s₁.setTop (mkF m 15 #[.val (.ref a1), .val (.int (3 : Int32)), .val (.int p3), .val (.int p4), .val (.int p5), .val (.int p6), .unset, .unset, .unset] [(.int c3)])) _
        refine XS.iload X0.here hx rfl (hb hby d3_15) rfl ?_
        show Steps p.tables e below (s₁.setTop (mkF m 17 #[.val (.ref a1), .val (.int (3 : Int32)), .val (.int p3), .val (.int p4), .val (.int p5), .val (.int p6), .unset, .unset, .unset] [(.int p6), (.int c3)])) _
        refine st13 _ ?_
        show Steps p.tables e below (s₁.setTop (mkF m 25 #[.val (.ref a1), .val (.int (3 : Int32)), .val (.int p3), .val (.int p4), .val (.int p5), .val (.int p6), .unset, .unset, .unset] [(.int (if c3 = p6 then (1 : Int32) else (0 : Int32)))])) _
        exact retN X0 hx (t := .boolean) Bd.returns (by simp) (hb hby d3_25) hr
      · show Qok3 Z a1 p3 p4 p5 p6 k1 c0 c1 c2 c3 c4 c5 c6 c7 c8 h0 n0 _ s₁.heap _
        rw [e0]
        have hf : fok3 p3 p4 p5 p6 c0 c1 c2 c3 c4 c5 c6 c7 c8 = ((if c3 = p6 then (1 : Int32) else (0 : Int32)) &&& 1) := by simp only [fok3, if_neg h1, if_neg h5]
        exact ⟨by rw [hf], N0, rfl⟩
theorem pn_ok4 : plainName "com/example/stratum/stratum/index/PostingsPutVarIntPinLaw" = true := by first | (simp [plainName, overriddenIn]; done) | decide +kernel
theorem ef_ok4 (m : MethodId) (a1 : Addr) (p3 : Int32) (p4 : Int32) (p5 : Int32) (p6 : Int32) : entryFrame m #[(.ref a1), (.int (4 : Int32)), (.int p3), (.int p4), (.int p5), (.int p6)] 9 = mkF m 0 #[.val (.ref a1), .val (.int (4 : Int32)), .val (.int p3), .val (.int p4), .val (.int p5), .val (.int p6), .unset, .unset, .unset] [] := by first | (simp [entryFrame, mkF, argsToLocals, Value.category]; done) | rfl
def Qok4 (Z : State) (a1 : Addr) (p3 : Int32) (p4 : Int32) (p5 : Int32) (p6 : Int32) (k1 : ClassId) (c0 : Int32) (c1 : Int32) (c2 : Int32) (c3 : Int32) (c4 : Int32) (c5 : Int32) (c6 : Int32) (c7 : Int32) (c8 : Int32) (h0 : Heap) (n0 : Nat) (v : Option Value) (h : Heap) (L : List Loc) : Prop := v = some (.int (fok4 p3 p4 p5 p6 c0 c1 c2 c3 c4 c5 c6 c7 c8)) ∧ Fr n0 L ∧ h = h0
set_option maxRecDepth 65536 in
set_option maxHeartbeats 40000000 in
theorem rmok4 (l : Launch) (Z : State) (a0 : Array Value) (hw : ∀ d ∈ tables_1, d.before a0 Z = true) (ws : List Jvm.Cond) (a1 : Addr) (p3 : Int32) (p4 : Int32) (p5 : Int32) (p6 : Int32) (k1 : ClassId) (c0 : Int32) (c1 : Int32) (c2 : Int32) (c3 : Int32) (c4 : Int32) (c5 : Int32) (c6 : Int32) (c7 : Int32) (c8 : Int32) (h0 : Heap) (n0 : Nat) (Z0 : n0 ≤ h0.size) (A_a1 : Arv Z h0 a1 k1 .byte (9 : Int32) [(.int c0), (.int c1), (.int c2), (.int c3), (.int c4), (.int c5), (.int c6), (.int c7), (.int c8)] (.int (0 : Int32))) :
    MetFree l (⟨"com/example/stratum/stratum/index/PostingsPutVarIntPinLaw", "ok", "([BIIIIB)Z"⟩ : MethodName) (head1 (Jvm.Cond.code (⟨"com/example/stratum/stratum/index/PostingsPutVarIntPinLaw", "ok", "([BIIIIB)Z"⟩ : MethodName) method_4_code 9 (some .boolean) :: ws) ({ frames := 0, cells := 0, slots := 0, locals := 0 } : Room)) (fun a U => a = #[(.ref a1), (.int (4 : Int32)), (.int p3), (.int p4), (.int p5), (.int p6)] ∧ Z.Warmed39 U.vm ∧ U.heap = h0) (fun _ _ _ _ _ => True) (fun _ U o U' => ∃ v L, o = .returned v ∧ Qok4 Z a1 p3 p4 p5 p6 k1 c0 c1 c2 c3 c4 c5 c6 c7 c8 h0 n0 v U'.heap L ∧ FrameEnd U o U' L ({ frames := 0, cells := 0, slots := 0, locals := 0 } : Room).cells ({ frames := 0, cells := 0, slots := 0, locals := 0 } : Room).slots) := by
  refine MetFree.of_bodySF (plainFor_of_name pn_ok4) hisR ?_
  intro p e s m args below meth c s₁ Bd hml0 hP hK
  obtain ⟨rfl, hZ, hh⟩ := hP
  have hx := Bd.exec
  have hby := Bd.bytes
  have hml : c.maxLocals = 9 := hml0
  have hown : s.vm.findClass "com/example/stratum/stratum/index/PostingsPutVarIntPinLaw" = some m.cls := findClass_of_methodNamed Bd.named
  have hnm := (name_of_methodNamed Bd.named Bd.method).1
  have X0 : Stand p l e ({ frames := 0, cells := 0, slots := 0, locals := 0 } : Room) s m #[(.ref a1), (.int (4 : Int32)), (.int p3), (.int p4), (.int p5), (.int p6)] below meth c s₁ [] 0 0 := Stand.of_body Bd
  have e0 : s₁.heap = h0 := by rw [← hh, Bd.state]; rfl
  have N0 := Fr.nil n0
  have pre0 : ∀ t, Steps p.tables e below (s₁.setTop (mkF m 0 #[.val (.ref a1), .val (.int (4 : Int32)), .val (.int p3), .val (.int p4), .val (.int p5), .val (.int p6), .unset, .unset, .unset] [])) t → Steps p.tables e below (s₁.setTop (entryFrame m #[(.ref a1), (.int (4 : Int32)), (.int p3), (.int p4), (.int p5), (.int p6)] 9)) t := fun t k => castTop (ef_ok4 m a1 p3 p4 p5 p6) k
  refine own_step (Q := fun o U' => ∃ v L, o = .returned v ∧ Qok4 Z a1 p3 p4 p5 p6 k1 c0 c1 c2 c3 c4 c5 c6 c7 c8 h0 n0 v U'.heap L ∧ FrameEnd s o U' L ({ frames := 0, cells := 0, slots := 0, locals := 0 } : Room).cells ({ frames := 0, cells := 0, slots := 0, locals := 0 } : Room).slots) pre0 ?_
  refine own_step (B := s₁.setTop (mkF m 2 #[.val (.ref a1), .val (.int (4 : Int32)), .val (.int p3), .val (.int p4), .val (.int p5), .val (.int p6), .unset, .unset, .unset] [(.int p3), (.int (4 : Int32))])) (fun t k => ?_) ?_
  · show Steps p.tables e below (s₁.setTop (mkF m 0 #[.val (.ref a1), .val (.int (4 : Int32)), .val (.int p3), .val (.int p4), .val (.int p5), .val (.int p6), .unset, .unset, .unset] [])) _
    refine XS.iloadN X0.here hx rfl (hb hby d3_0) rfl ?_
    show Steps p.tables e below (s₁.setTop (mkF m 1 #[.val (.ref a1), .val (.int (4 : Int32)), .val (.int p3), .val (.int p4), .val (.int p5), .val (.int p6), .unset, .unset, .unset] [(.int (4 : Int32))])) _
    refine XS.iloadN X0.here hx rfl (hb hby d3_1) rfl ?_
    exact k
  by_cases h1 : (4 : Int32) < p3
  · obtain ⟨cl2, Ar2, -, S2, M2, H2, -⟩ := id A_a1
    have hin2 := inb_of (j := (4 : Int32)) S2 (by decide)
    have hat2 := H2.at hin2 (v := (.int c4)) (rfl)
    have st4 : ∀ t, Steps p.tables e below (s₁.setTop (mkF m 25 #[.val (.ref a1), .val (.int (4 : Int32)), .val (.int p3), .val (.int p4), .val (.int p5), .val (.int p6), .unset, .unset, .unset] [(.int (if c4 = p6 then (1 : Int32) else (0 : Int32)))])) t → Steps p.tables e below (s₁.setTop (mkF m 17 #[.val (.ref a1), .val (.int (4 : Int32)), .val (.int p3), .val (.int p4), .val (.int p5), .val (.int p6), .unset, .unset, .unset] [(.int p6), (.int c4)])) t := by
      intro t k
      by_cases h3 : c4 = p6
      · rw [show (if c4 = p6 then (1 : Int32) else (0 : Int32)) = (1 : Int32) from if_pos h3] at k
        show Steps p.tables e below (s₁.setTop (mkF m 17 #[.val (.ref a1), .val (.int (4 : Int32)), .val (.int p3), .val (.int p4), .val (.int p5), .val (.int p6), .unset, .unset, .unset] [(.int p6), (.int c4)])) _
        refine XS.icmpNo X0.here hx rfl (hb hby d3_17) rfl (teq h3).2 ?_
        show Steps p.tables e below (s₁.setTop (mkF m 20 #[.val (.ref a1), .val (.int (4 : Int32)), .val (.int p3), .val (.int p4), .val (.int p5), .val (.int p6), .unset, .unset, .unset] [])) _
        refine XS.iconst X0.here hx rfl (hb hby d3_20) ?_
        show Steps p.tables e below (s₁.setTop (mkF m 21 #[.val (.ref a1), .val (.int (4 : Int32)), .val (.int p3), .val (.int p4), .val (.int p5), .val (.int p6), .unset, .unset, .unset] [(.int (1 : Int32))])) _
        refine XS.goto X0.here hx rfl (pc0 := 21) (pc' := 25) rfl (hb hby d3_21) (by decide) (by decide) ?_
        exact k
      · rw [show (if c4 = p6 then (1 : Int32) else (0 : Int32)) = (0 : Int32) from if_neg h3] at k
        show Steps p.tables e below (s₁.setTop (mkF m 17 #[.val (.ref a1), .val (.int (4 : Int32)), .val (.int p3), .val (.int p4), .val (.int p5), .val (.int p6), .unset, .unset, .unset] [(.int p6), (.int c4)])) _
        refine XS.icmpYes X0.here hx rfl (pc0 := 17) (pc' := 24) rfl (hb hby d3_17) rfl (feq h3).2 (by decide) (by decide) ?_
        show Steps p.tables e below (s₁.setTop (mkF m 24 #[.val (.ref a1), .val (.int (4 : Int32)), .val (.int p3), .val (.int p4), .val (.int p5), .val (.int p6), .unset, .unset, .unset] [])) _
        refine XS.iconst X0.here hx rfl (hb hby d3_24) ?_
        exact k
    obtain ⟨fs, hr, hrun, hended, hW, hsame⟩ := X0.leave (v := some (.int ((if c4 = p6 then (1 : Int32) else (0 : Int32)) &&& 1))) (fun h => by rw [Bd.returns] at h; cases h)
    refine ⟨_, _, ?_, hrun, hended, _, _, rfl, ?_, ⟨_, rfl⟩, hW, hsame.mono (by decide) (by decide)⟩
    · show Steps p.tables e below (s₁.setTop (mkF m 2 #[.val (.ref a1), .val (.int (4 : Int32)), .val (.int p3), .val (.int p4), .val (.int p5), .val (.int p6), .unset, .unset, .unset] [(.int p3), (.int (4 : Int32))])) _
      refine XS.icmpYes X0.here hx rfl (pc0 := 2) (pc' := 12) rfl (hb hby d3_2) rfl (tlt h1).1 (by decide) (by decide) ?_
      show Steps p.tables e below (s₁.setTop (mkF m 12 #[.val (.ref a1), .val (.int (4 : Int32)), .val (.int p3), .val (.int p4), .val (.int p5), .val (.int p6), .unset, .unset, .unset] [])) _
      refine XS.aloadN X0.here hx rfl (hb hby d3_12) rfl rfl ?_
      show Steps p.tables e below (s₁.setTop (mkF m 13 #[.val (.ref a1), .val (.int (4 : Int32)), .val (.int p3), .val (.int p4), .val (.int p5), .val (.int p6), .unset, .unset, .unset] [(.ref a1)])) _
      refine XS.iloadN X0.here hx rfl (hb hby d3_13) rfl ?_
      show Steps p.tables e below (s₁.setTop (mkF m 14 #[.val (.ref a1), .val (.int (4 : Int32)), .val (.int p3), .val (.int p4), .val (.int p5), .val (.int p6), .unset, .unset, .unset] [(.int (4 : Int32)), (.ref a1)])) _
      refine X0.baloadBytes hx (j := (4 : Int32)) (v := (.int c4)) (by rw [e0]; exact Ar2.1) (State.isArrayOf_alike hZ.alike Ar2.2.1) Ar2.2.2 hin2 hat2 (g := (mkF m 14 #[.val (.ref a1), .val (.int (4 : Int32)), .val (.int p3), .val (.int p4), .val (.int p5), .val (.int p6), .unset, .unset, .unset] [(.int (4 : Int32)), (.ref a1)])) rfl rfl (hb hby d3_14) _ ?_
      show Steps p.tables e below (s₁.setTop (mkF m 15 #[.val (.ref a1), .val (.int (4 : Int32)), .val (.int p3), .val (.int p4), .val (.int p5), .val (.int p6), .unset, .unset, .unset] [(.int c4)])) _
      refine XS.iload X0.here hx rfl (hb hby d3_15) rfl ?_
      show Steps p.tables e below (s₁.setTop (mkF m 17 #[.val (.ref a1), .val (.int (4 : Int32)), .val (.int p3), .val (.int p4), .val (.int p5), .val (.int p6), .unset, .unset, .unset] [(.int p6), (.int c4)])) _
      refine st4 _ ?_
      show Steps p.tables e below (s₁.setTop (mkF m 25 #[.val (.ref a1), .val (.int (4 : Int32)), .val (.int p3), .val (.int p4), .val (.int p5), .val (.int p6), .unset, .unset, .unset] [(.int (if c4 = p6 then (1 : Int32) else (0 : Int32)))])) _
      exact retN X0 hx (t := .boolean) Bd.returns (by simp) (hb hby d3_25) hr
    · show Qok4 Z a1 p3 p4 p5 p6 k1 c0 c1 c2 c3 c4 c5 c6 c7 c8 h0 n0 _ s₁.heap _
      rw [e0]
      have hf : fok4 p3 p4 p5 p6 c0 c1 c2 c3 c4 c5 c6 c7 c8 = ((if c4 = p6 then (1 : Int32) else (0 : Int32)) &&& 1) := by simp only [fok4, if_pos h1]
      exact ⟨by rw [hf], N0, rfl⟩
  · refine own_step (B := s₁.setTop (mkF m 9 #[.val (.ref a1), .val (.int (4 : Int32)), .val (.int p3), .val (.int p4), .val (.int p5), .val (.int p6), .unset, .unset, .unset] [(.int (p3 + p4)), (.int (4 : Int32))])) (fun t k => ?_) ?_
    · show Steps p.tables e below (s₁.setTop (mkF m 2 #[.val (.ref a1), .val (.int (4 : Int32)), .val (.int p3), .val (.int p4), .val (.int p5), .val (.int p6), .unset, .unset, .unset] [(.int p3), (.int (4 : Int32))])) _
      refine XS.icmpNo X0.here hx rfl (hb hby d3_2) rfl (flt h1).1 ?_
      show Steps p.tables e below (s₁.setTop (mkF m 5 #[.val (.ref a1), .val (.int (4 : Int32)), .val (.int p3), .val (.int p4), .val (.int p5), .val (.int p6), .unset, .unset, .unset] [])) _
      refine XS.iloadN X0.here hx rfl (hb hby d3_5) rfl ?_
      show Steps p.tables e below (s₁.setTop (mkF m 6 #[.val (.ref a1), .val (.int (4 : Int32)), .val (.int p3), .val (.int p4), .val (.int p5), .val (.int p6), .unset, .unset, .unset] [(.int (4 : Int32))])) _
      refine XS.iloadN X0.here hx rfl (hb hby d3_6) rfl ?_
      show Steps p.tables e below (s₁.setTop (mkF m 7 #[.val (.ref a1), .val (.int (4 : Int32)), .val (.int p3), .val (.int p4), .val (.int p5), .val (.int p6), .unset, .unset, .unset] [(.int p3), (.int (4 : Int32))])) _
      refine XS.iloadN X0.here hx rfl (hb hby d3_7) rfl ?_
      show Steps p.tables e below (s₁.setTop (mkF m 8 #[.val (.ref a1), .val (.int (4 : Int32)), .val (.int p3), .val (.int p4), .val (.int p5), .val (.int p6), .unset, .unset, .unset] [(.int p4), (.int p3), (.int (4 : Int32))])) _
      refine XS.iadd X0.here hx rfl (hb hby d3_8) rfl ?_
      exact k
    by_cases h5 : (4 : Int32) < (p3 + p4)
    · have st7 : ∀ t, Steps p.tables e below (s₁.setTop (mkF m 63 #[.val (.ref a1), .val (.int (4 : Int32)), .val (.int p3), .val (.int p4), .val (.int p5), .val (.int p6), .val (.int ((4 : Int32) - p3)), .val (.int ((XT.ushr p5 ((7 : Int32) * ((4 : Int32) - p3))) &&& (127 : Int32))), .unset] [(.int (fok4_0 p3 p4 p5 p6 c0 c1 c2 c3 c4 c5 c6 c7 c8))])) t → Steps p.tables e below (s₁.setTop (mkF m 49 #[.val (.ref a1), .val (.int (4 : Int32)), .val (.int p3), .val (.int p4), .val (.int p5), .val (.int p6), .val (.int ((4 : Int32) - p3)), .val (.int ((XT.ushr p5 ((7 : Int32) * ((4 : Int32) - p3))) &&& (127 : Int32))), .unset] [(.int (p4 - (1 : Int32))), (.int ((4 : Int32) - p3))])) t := by
        intro t k
        by_cases h6 : ((4 : Int32) - p3) < (p4 - (1 : Int32))
        · rw [show (fok4_0 p3 p4 p5 p6 c0 c1 c2 c3 c4 c5 c6 c7 c8) = (((XT.ushr p5 ((7 : Int32) * ((4 : Int32) - p3))) &&& (127 : Int32)) ||| (128 : Int32)) from if_pos h6] at k
          show Steps p.tables e below (s₁.setTop (mkF m 49 #[.val (.ref a1), .val (.int (4 : Int32)), .val (.int p3), .val (.int p4), .val (.int p5), .val (.int p6), .val (.int ((4 : Int32) - p3)), .val (.int ((XT.ushr p5 ((7 : Int32) * ((4 : Int32) - p3))) &&& (127 : Int32))), .unset] [(.int (p4 - (1 : Int32))), (.int ((4 : Int32) - p3))])) _
          refine XS.icmpNo X0.here hx rfl (hb hby d3_49) rfl (tlt h6).2.1 ?_
          show Steps p.tables e below (s₁.setTop (mkF m 52 #[.val (.ref a1), .val (.int (4 : Int32)), .val (.int p3), .val (.int p4), .val (.int p5), .val (.int p6), .val (.int ((4 : Int32) - p3)), .val (.int ((XT.ushr p5 ((7 : Int32) * ((4 : Int32) - p3))) &&& (127 : Int32))), .unset] [])) _
          refine XS.iload X0.here hx rfl (hb hby d3_52) rfl ?_
          show Steps p.tables e below (s₁.setTop (mkF m 54 #[.val (.ref a1), .val (.int (4 : Int32)), .val (.int p3), .val (.int p4), .val (.int p5), .val (.int p6), .val (.int ((4 : Int32) - p3)), .val (.int ((XT.ushr p5 ((7 : Int32) * ((4 : Int32) - p3))) &&& (127 : Int32))), .unset] [(.int ((XT.ushr p5 ((7 : Int32) * ((4 : Int32) - p3))) &&& (127 : Int32)))])) _
          refine XS.sipush X0.here hx rfl (hb hby d3_54) ?_
          show Steps p.tables e below (s₁.setTop (mkF m 57 #[.val (.ref a1), .val (.int (4 : Int32)), .val (.int p3), .val (.int p4), .val (.int p5), .val (.int p6), .val (.int ((4 : Int32) - p3)), .val (.int ((XT.ushr p5 ((7 : Int32) * ((4 : Int32) - p3))) &&& (127 : Int32))), .unset] [(.int (128 : Int32)), (.int ((XT.ushr p5 ((7 : Int32) * ((4 : Int32) - p3))) &&& (127 : Int32)))])) _
          refine XT.ior X0.here hx rfl (hb hby d3_57) rfl ?_
          show Steps p.tables e below (s₁.setTop (mkF m 58 #[.val (.ref a1), .val (.int (4 : Int32)), .val (.int p3), .val (.int p4), .val (.int p5), .val (.int p6), .val (.int ((4 : Int32) - p3)), .val (.int ((XT.ushr p5 ((7 : Int32) * ((4 : Int32) - p3))) &&& (127 : Int32))), .unset] [(.int (((XT.ushr p5 ((7 : Int32) * ((4 : Int32) - p3))) &&& (127 : Int32)) ||| (128 : Int32)))])) _
          refine XS.goto X0.here hx rfl (pc0 := 58) (pc' := 63) rfl (hb hby d3_58) (by decide) (by decide) ?_
          exact k
        · rw [show (fok4_0 p3 p4 p5 p6 c0 c1 c2 c3 c4 c5 c6 c7 c8) = ((XT.ushr p5 ((7 : Int32) * ((4 : Int32) - p3))) &&& (127 : Int32)) from if_neg h6] at k
          show Steps p.tables e below (s₁.setTop (mkF m 49 #[.val (.ref a1), .val (.int (4 : Int32)), .val (.int p3), .val (.int p4), .val (.int p5), .val (.int p6), .val (.int ((4 : Int32) - p3)), .val (.int ((XT.ushr p5 ((7 : Int32) * ((4 : Int32) - p3))) &&& (127 : Int32))), .unset] [(.int (p4 - (1 : Int32))), (.int ((4 : Int32) - p3))])) _
          refine XS.icmpYes X0.here hx rfl (pc0 := 49) (pc' := 61) rfl (hb hby d3_49) rfl (flt h6).2.1 (by decide) (by decide) ?_
          show Steps p.tables e below (s₁.setTop (mkF m 61 #[.val (.ref a1), .val (.int (4 : Int32)), .val (.int p3), .val (.int p4), .val (.int p5), .val (.int p6), .val (.int ((4 : Int32) - p3)), .val (.int ((XT.ushr p5 ((7 : Int32) * ((4 : Int32) - p3))) &&& (127 : Int32))), .unset] [])) _
          refine XS.iload X0.here hx rfl (hb hby d3_61) rfl ?_
          exact k
      obtain ⟨cl8, Ar8, -, S8, M8, H8, -⟩ := id A_a1
      have hin8 := inb_of (j := (4 : Int32)) S8 (by decide)
      have hat8 := H8.at hin8 (v := (.int c4)) (rfl)
      have st10 : ∀ t, Steps p.tables e below (s₁.setTop (mkF m 79 #[.val (.ref a1), .val (.int (4 : Int32)), .val (.int p3), .val (.int p4), .val (.int p5), .val (.int p6), .val (.int ((4 : Int32) - p3)), .val (.int ((XT.ushr p5 ((7 : Int32) * ((4 : Int32) - p3))) &&& (127 : Int32))), .val (.int (fok4_0 p3 p4 p5 p6 c0 c1 c2 c3 c4 c5 c6 c7 c8))] [(.int (fok4_1 p3 p4 p5 p6 c0 c1 c2 c3 c4 c5 c6 c7 c8))])) t → Steps p.tables e below (s₁.setTop (mkF m 71 #[.val (.ref a1), .val (.int (4 : Int32)), .val (.int p3), .val (.int p4), .val (.int p5), .val (.int p6), .val (.int ((4 : Int32) - p3)), .val (.int ((XT.ushr p5 ((7 : Int32) * ((4 : Int32) - p3))) &&& (127 : Int32))), .val (.int (fok4_0 p3 p4 p5 p6 c0 c1 c2 c3 c4 c5 c6 c7 c8))] [(.int (fok4_0 p3 p4 p5 p6 c0 c1 c2 c3 c4 c5 c6 c7 c8).toInt8.toInt32), (.int c4)])) t := by
        intro t k
        by_cases h9 : c4 = (fok4_0 p3 p4 p5 p6 c0 c1 c2 c3 c4 c5 c6 c7 c8).toInt8.toInt32
        · rw [show (fok4_1 p3 p4 p5 p6 c0 c1 c2 c3 c4 c5 c6 c7 c8) = (1 : Int32) from if_pos h9] at k
          show Steps p.tables e below (s₁.setTop (mkF m 71 #[.val (.ref a1), .val (.int (4 : Int32)), .val (.int p3), .val (.int p4), .val (.int p5), .val (.int p6), .val (.int ((4 : Int32) - p3)), .val (.int ((XT.ushr p5 ((7 : Int32) * ((4 : Int32) - p3))) &&& (127 : Int32))), .val (.int (fok4_0 p3 p4 p5 p6 c0 c1 c2 c3 c4 c5 c6 c7 c8))] [(.int (fok4_0 p3 p4 p5 p6 c0 c1 c2 c3 c4 c5 c6 c7 c8).toInt8.toInt32), (.int c4)])) _
          refine XS.icmpNo X0.here hx rfl (hb hby d3_71) rfl (teq h9).2 ?_
          show Steps p.tables e below (s₁.setTop (mkF m 74 #[.val (.ref a1), .val (.int (4 : Int32)), .val (.int p3), .val (.int p4), .val (.int p5), .val (.int p6), .val (.int ((4 : Int32) - p3)), .val (.int ((XT.ushr p5 ((7 : Int32) * ((4 : Int32) - p3))) &&& (127 : Int32))), .val (.int (fok4_0 p3 p4 p5 p6 c0 c1 c2 c3 c4 c5 c6 c7 c8))] [])) _
          refine XS.iconst X0.here hx rfl (hb hby d3_74) ?_
          show Steps p.tables e below (s₁.setTop (mkF m 75 #[.val (.ref a1), .val (.int (4 : Int32)), .val (.int p3), .val (.int p4), .val (.int p5), .val (.int p6), .val (.int ((4 : Int32) - p3)), .val (.int ((XT.ushr p5 ((7 : Int32) * ((4 : Int32) - p3))) &&& (127 : Int32))), .val (.int (fok4_0 p3 p4 p5 p6 c0 c1 c2 c3 c4 c5 c6 c7 c8))] [(.int (1 : Int32))])) _
          refine XS.goto X0.here hx rfl (pc0 := 75) (pc' := 79) rfl (hb hby d3_75) (by decide) (by decide) ?_
          exact k
        · rw [show (fok4_1 p3 p4 p5 p6 c0 c1 c2 c3 c4 c5 c6 c7 c8) = (0 : Int32) from if_neg h9] at k
          show Steps p.tables e below (s₁.setTop (mkF m 71 #[.val (.ref a1), .val (.int (4 : Int32)), .val (.int p3), .val (.int p4), .val (.int p5), .val (.int p6), .val (.int ((4 : Int32) - p3)), .val (.int ((XT.ushr p5 ((7 : Int32) * ((4 : Int32) - p3))) &&& (127 : Int32))), .val (.int (fok4_0 p3 p4 p5 p6 c0 c1 c2 c3 c4 c5 c6 c7 c8))] [(.int (fok4_0 p3 p4 p5 p6 c0 c1 c2 c3 c4 c5 c6 c7 c8).toInt8.toInt32), (.int c4)])) _
          refine XS.icmpYes X0.here hx rfl (pc0 := 71) (pc' := 78) rfl (hb hby d3_71) rfl (feq h9).2 (by decide) (by decide) ?_
          show Steps p.tables e below (s₁.setTop (mkF m 78 #[.val (.ref a1), .val (.int (4 : Int32)), .val (.int p3), .val (.int p4), .val (.int p5), .val (.int p6), .val (.int ((4 : Int32) - p3)), .val (.int ((XT.ushr p5 ((7 : Int32) * ((4 : Int32) - p3))) &&& (127 : Int32))), .val (.int (fok4_0 p3 p4 p5 p6 c0 c1 c2 c3 c4 c5 c6 c7 c8))] [])) _
          refine XS.iconst X0.here hx rfl (hb hby d3_78) ?_
          exact k
      obtain ⟨fs, hr, hrun, hended, hW, hsame⟩ := X0.leave (v := some (.int ((fok4_1 p3 p4 p5 p6 c0 c1 c2 c3 c4 c5 c6 c7 c8) &&& 1))) (fun h => by rw [Bd.returns] at h; cases h)
      refine ⟨_, _, ?_, hrun, hended, _, _, rfl, ?_, ⟨_, rfl⟩, hW, hsame.mono (by decide) (by decide)⟩
      · show Steps p.tables e below (s₁.setTop (mkF m 9 #[.val (.ref a1), .val (.int (4 : Int32)), .val (.int p3), .val (.int p4), .val (.int p5), .val (.int p6), .unset, .unset, .unset] [(.int (p3 + p4)), (.int (4 : Int32))])) _
        refine XS.icmpYes X0.here hx rfl (pc0 := 9) (pc' := 26) rfl (hb hby d3_9) rfl (tlt h5).1 (by decide) (by decide) ?_
        show Steps p.tables e below (s₁.setTop (mkF m 26 #[.val (.ref a1), .val (.int (4 : Int32)), .val (.int p3), .val (.int p4), .val (.int p5), .val (.int p6), .unset, .unset, .unset] [])) _
        refine XS.iloadN X0.here hx rfl (hb hby d3_26) rfl ?_
        show Steps p.tables e below (s₁.setTop (mkF m 27 #[.val (.ref a1), .val (.int (4 : Int32)), .val (.int p3), .val (.int p4), .val (.int p5), .val (.int p6), .unset, .unset, .unset] [(.int (4 : Int32))])) _
        refine XS.iloadN X0.here hx rfl (hb hby d3_27) rfl ?_
        show Steps p.tables e below (s₁.setTop (mkF m 28 #[.val (.ref a1), .val (.int (4 : Int32)), .val (.int p3), .val (.int p4), .val (.int p5), .val (.int p6), .unset, .unset, .unset] [(.int p3), (.int (4 : Int32))])) _
        refine XS.isub X0.here hx rfl (hb hby d3_28) rfl ?_
        show Steps p.tables e below (s₁.setTop (mkF m 29 #[.val (.ref a1), .val (.int (4 : Int32)), .val (.int p3), .val (.int p4), .val (.int p5), .val (.int p6), .unset, .unset, .unset] [(.int ((4 : Int32) - p3))])) _
        refine XS.istore X0.here hx rfl (hb hby d3_29) rfl (l' := #[.val (.ref a1), .val (.int (4 : Int32)), .val (.int p3), .val (.int p4), .val (.int p5), .val (.int p6), .val (.int ((4 : Int32) - p3)), .unset, .unset]) rfl ?_
        show Steps p.tables e below (s₁.setTop (mkF m 31 #[.val (.ref a1), .val (.int (4 : Int32)), .val (.int p3), .val (.int p4), .val (.int p5), .val (.int p6), .val (.int ((4 : Int32) - p3)), .unset, .unset] [])) _
        refine XS.iload X0.here hx rfl (hb hby d3_31) rfl ?_
        show Steps p.tables e below (s₁.setTop (mkF m 33 #[.val (.ref a1), .val (.int (4 : Int32)), .val (.int p3), .val (.int p4), .val (.int p5), .val (.int p6), .val (.int ((4 : Int32) - p3)), .unset, .unset] [(.int p5)])) _
        refine XS.bipush X0.here hx rfl (hb hby d3_33) ?_
        show Steps p.tables e below (s₁.setTop (mkF m 35 #[.val (.ref a1), .val (.int (4 : Int32)), .val (.int p3), .val (.int p4), .val (.int p5), .val (.int p6), .val (.int ((4 : Int32) - p3)), .unset, .unset] [(.int (7 : Int32)), (.int p5)])) _
        refine XS.iload X0.here hx rfl (hb hby d3_35) rfl ?_
        show Steps p.tables e below (s₁.setTop (mkF m 37 #[.val (.ref a1), .val (.int (4 : Int32)), .val (.int p3), .val (.int p4), .val (.int p5), .val (.int p6), .val (.int ((4 : Int32) - p3)), .unset, .unset] [(.int ((4 : Int32) - p3)), (.int (7 : Int32)), (.int p5)])) _
        refine XS.imul X0.here hx rfl (hb hby d3_37) rfl ?_
        show Steps p.tables e below (s₁.setTop (mkF m 38 #[.val (.ref a1), .val (.int (4 : Int32)), .val (.int p3), .val (.int p4), .val (.int p5), .val (.int p6), .val (.int ((4 : Int32) - p3)), .unset, .unset] [(.int ((7 : Int32) * ((4 : Int32) - p3))), (.int p5)])) _
        refine XT.iushr X0.here hx rfl (hb hby d3_38) rfl ?_
        show Steps p.tables e below (s₁.setTop (mkF m 39 #[.val (.ref a1), .val (.int (4 : Int32)), .val (.int p3), .val (.int p4), .val (.int p5), .val (.int p6), .val (.int ((4 : Int32) - p3)), .unset, .unset] [(.int (XT.ushr p5 ((7 : Int32) * ((4 : Int32) - p3))))])) _
        refine XS.bipush X0.here hx rfl (hb hby d3_39) ?_
        show Steps p.tables e below (s₁.setTop (mkF m 41 #[.val (.ref a1), .val (.int (4 : Int32)), .val (.int p3), .val (.int p4), .val (.int p5), .val (.int p6), .val (.int ((4 : Int32) - p3)), .unset, .unset] [(.int (127 : Int32)), (.int (XT.ushr p5 ((7 : Int32) * ((4 : Int32) - p3))))])) _
        refine XS.iand X0.here hx rfl (hb hby d3_41) rfl ?_
        show Steps p.tables e below (s₁.setTop (mkF m 42 #[.val (.ref a1), .val (.int (4 : Int32)), .val (.int p3), .val (.int p4), .val (.int p5), .val (.int p6), .val (.int ((4 : Int32) - p3)), .unset, .unset] [(.int ((XT.ushr p5 ((7 : Int32) * ((4 : Int32) - p3))) &&& (127 : Int32)))])) _
        refine XS.istore X0.here hx rfl (hb hby d3_42) rfl (l' := #[.val (.ref a1), .val (.int (4 : Int32)), .val (.int p3), .val (.int p4), .val (.int p5), .val (.int p6), .val (.int ((4 : Int32) - p3)), .val (.int ((XT.ushr p5 ((7 : Int32) * ((4 : Int32) - p3))) &&& (127 : Int32))), .unset]) rfl ?_
        show Steps p.tables e below (s₁.setTop (mkF m 44 #[.val (.ref a1), .val (.int (4 : Int32)), .val (.int p3), .val (.int p4), .val (.int p5), .val (.int p6), .val (.int ((4 : Int32) - p3)), .val (.int ((XT.ushr p5 ((7 : Int32) * ((4 : Int32) - p3))) &&& (127 : Int32))), .unset] [])) _
        refine XS.iload X0.here hx rfl (hb hby d3_44) rfl ?_
        show Steps p.tables e below (s₁.setTop (mkF m 46 #[.val (.ref a1), .val (.int (4 : Int32)), .val (.int p3), .val (.int p4), .val (.int p5), .val (.int p6), .val (.int ((4 : Int32) - p3)), .val (.int ((XT.ushr p5 ((7 : Int32) * ((4 : Int32) - p3))) &&& (127 : Int32))), .unset] [(.int ((4 : Int32) - p3))])) _
        refine XS.iloadN X0.here hx rfl (hb hby d3_46) rfl ?_
        show Steps p.tables e below (s₁.setTop (mkF m 47 #[.val (.ref a1), .val (.int (4 : Int32)), .val (.int p3), .val (.int p4), .val (.int p5), .val (.int p6), .val (.int ((4 : Int32) - p3)), .val (.int ((XT.ushr p5 ((7 : Int32) * ((4 : Int32) - p3))) &&& (127 : Int32))), .unset] [(.int p4), (.int ((4 : Int32) - p3))])) _
        refine XS.iconst X0.here hx rfl (hb hby d3_47) ?_
        show Steps p.tables e below (s₁.setTop (mkF m 48 #[.val (.ref a1), .val (.int (4 : Int32)), .val (.int p3), .val (.int p4), .val (.int p5), .val (.int p6), .val (.int ((4 : Int32) - p3)), .val (.int ((XT.ushr p5 ((7 : Int32) * ((4 : Int32) - p3))) &&& (127 : Int32))), .unset] [(.int (1 : Int32)), (.int p4), (.int ((4 : Int32) - p3))])) _
        refine XS.isub X0.here hx rfl (hb hby d3_48) rfl ?_
        show Steps p.tables e below (s₁.setTop (mkF m 49 #[.val (.ref a1), .val (.int (4 : Int32)), .val (.int p3), .val (.int p4), .val (.int p5), .val (.int p6), .val (.int ((4 : Int32) - p3)), .val (.int ((XT.ushr p5 ((7 : Int32) * ((4 : Int32) - p3))) &&& (127 : Int32))), .unset] [(.int (p4 - (1 : Int32))), (.int ((4 : Int32) - p3))])) _
        refine st7 _ ?_
        show Steps p.tables e below (s₁.setTop (mkF m 63 #[.val (.ref a1), .val (.int (4 : Int32)), .val (.int p3), .val (.int p4), .val (.int p5), .val (.int p6), .val (.int ((4 : Int32) - p3)), .val (.int ((XT.ushr p5 ((7 : Int32) * ((4 : Int32) - p3))) &&& (127 : Int32))), .unset] [(.int (fok4_0 p3 p4 p5 p6 c0 c1 c2 c3 c4 c5 c6 c7 c8))])) _
        refine XS.istore X0.here hx rfl (hb hby d3_63) rfl (l' := #[.val (.ref a1), .val (.int (4 : Int32)), .val (.int p3), .val (.int p4), .val (.int p5), .val (.int p6), .val (.int ((4 : Int32) - p3)), .val (.int ((XT.ushr p5 ((7 : Int32) * ((4 : Int32) - p3))) &&& (127 : Int32))), .val (.int (fok4_0 p3 p4 p5 p6 c0 c1 c2 c3 c4 c5 c6 c7 c8))]) rfl ?_
        show Steps p.tables e below (s₁.setTop (mkF m 65 #[.val (.ref a1), .val (.int (4 : Int32)), .val (.int p3), .val (.int p4), .val (.int p5), .val (.int p6), .val (.int ((4 : Int32) - p3)), .val (.int ((XT.ushr p5 ((7 : Int32) * ((4 : Int32) - p3))) &&& (127 : Int32))), .val (.int (fok4_0 p3 p4 p5 p6 c0 c1 c2 c3 c4 c5 c6 c7 c8))] [])) _
        refine XS.aloadN X0.here hx rfl (hb hby d3_65) rfl rfl ?_
        show Steps p.tables e below (s₁.setTop (mkF m 66 #[.val (.ref a1), .val (.int (4 : Int32)), .val (.int p3), .val (.int p4), .val (.int p5), .val (.int p6), .val (.int ((4 : Int32) - p3)), .val (.int ((XT.ushr p5 ((7 : Int32) * ((4 : Int32) - p3))) &&& (127 : Int32))), .val (.int (fok4_0 p3 p4 p5 p6 c0 c1 c2 c3 c4 c5 c6 c7 c8))] [(.ref a1)])) _
        refine XS.iloadN X0.here hx rfl (hb hby d3_66) rfl ?_
        show Steps p.tables e below (s₁.setTop (mkF m 67 #[.val (.ref a1), .val (.int (4 : Int32)), .val (.int p3), .val (.int p4), .val (.int p5), .val (.int p6), .val (.int ((4 : Int32) - p3)), .val (.int ((XT.ushr p5 ((7 : Int32) * ((4 : Int32) - p3))) &&& (127 : Int32))), .val (.int (fok4_0 p3 p4 p5 p6 c0 c1 c2 c3 c4 c5 c6 c7 c8))] [(.int (4 : Int32)), (.ref a1)])) _
        refine X0.baloadBytes hx (j := (4 : Int32)) (v := (.int c4)) (by rw [e0]; exact Ar8.1) (State.isArrayOf_alike hZ.alike Ar8.2.1) Ar8.2.2 hin8 hat8 (g := (mkF m 67 #[.val (.ref a1), .val (.int (4 : Int32)), .val (.int p3), .val (.int p4), .val (.int p5), .val (.int p6), .val (.int ((4 : Int32) - p3)), .val (.int ((XT.ushr p5 ((7 : Int32) * ((4 : Int32) - p3))) &&& (127 : Int32))), .val (.int (fok4_0 p3 p4 p5 p6 c0 c1 c2 c3 c4 c5 c6 c7 c8))] [(.int (4 : Int32)), (.ref a1)])) rfl rfl (hb hby d3_67) _ ?_
        show Steps p.tables e below (s₁.setTop (mkF m 68 #[.val (.ref a1), .val (.int (4 : Int32)), .val (.int p3), .val (.int p4), .val (.int p5), .val (.int p6), .val (.int ((4 : Int32) - p3)), .val (.int ((XT.ushr p5 ((7 : Int32) * ((4 : Int32) - p3))) &&& (127 : Int32))), .val (.int (fok4_0 p3 p4 p5 p6 c0 c1 c2 c3 c4 c5 c6 c7 c8))] [(.int c4)])) _
        refine XS.iload X0.here hx rfl (hb hby d3_68) rfl ?_
        show Steps p.tables e below (s₁.setTop (mkF m 70 #[.val (.ref a1), .val (.int (4 : Int32)), .val (.int p3), .val (.int p4), .val (.int p5), .val (.int p6), .val (.int ((4 : Int32) - p3)), .val (.int ((XT.ushr p5 ((7 : Int32) * ((4 : Int32) - p3))) &&& (127 : Int32))), .val (.int (fok4_0 p3 p4 p5 p6 c0 c1 c2 c3 c4 c5 c6 c7 c8))] [(.int (fok4_0 p3 p4 p5 p6 c0 c1 c2 c3 c4 c5 c6 c7 c8)), (.int c4)])) _
        refine XT.i2b X0.here hx rfl (hb hby d3_70) rfl ?_
        show Steps p.tables e below (s₁.setTop (mkF m 71 #[.val (.ref a1), .val (.int (4 : Int32)), .val (.int p3), .val (.int p4), .val (.int p5), .val (.int p6), .val (.int ((4 : Int32) - p3)), .val (.int ((XT.ushr p5 ((7 : Int32) * ((4 : Int32) - p3))) &&& (127 : Int32))), .val (.int (fok4_0 p3 p4 p5 p6 c0 c1 c2 c3 c4 c5 c6 c7 c8))] [(.int (fok4_0 p3 p4 p5 p6 c0 c1 c2 c3 c4 c5 c6 c7 c8).toInt8.toInt32), (.int c4)])) _
        refine st10 _ ?_
        show Steps p.tables e below (s₁.setTop (mkF m 79 #[.val (.ref a1), .val (.int (4 : Int32)), .val (.int p3), .val (.int p4), .val (.int p5), .val (.int p6), .val (.int ((4 : Int32) - p3)), .val (.int ((XT.ushr p5 ((7 : Int32) * ((4 : Int32) - p3))) &&& (127 : Int32))), .val (.int (fok4_0 p3 p4 p5 p6 c0 c1 c2 c3 c4 c5 c6 c7 c8))] [(.int (fok4_1 p3 p4 p5 p6 c0 c1 c2 c3 c4 c5 c6 c7 c8))])) _
        exact retN X0 hx (t := .boolean) Bd.returns (by simp) (hb hby d3_79) hr
      · show Qok4 Z a1 p3 p4 p5 p6 k1 c0 c1 c2 c3 c4 c5 c6 c7 c8 h0 n0 _ s₁.heap _
        rw [e0]
        have hf : fok4 p3 p4 p5 p6 c0 c1 c2 c3 c4 c5 c6 c7 c8 = ((fok4_1 p3 p4 p5 p6 c0 c1 c2 c3 c4 c5 c6 c7 c8) &&& 1) := by simp only [fok4, if_neg h1, if_pos h5]
        exact ⟨by rw [hf], N0, rfl⟩
    · obtain ⟨cl11, Ar11, -, S11, M11, H11, -⟩ := id A_a1
      have hin11 := inb_of (j := (4 : Int32)) S11 (by decide)
      have hat11 := H11.at hin11 (v := (.int c4)) (rfl)
      have st13 : ∀ t, Steps p.tables e below (s₁.setTop (mkF m 25 #[.val (.ref a1), .val (.int (4 : Int32)), .val (.int p3), .val (.int p4), .val (.int p5), .val (.int p6), .unset, .unset, .unset] [(.int (if c4 = p6 then (1 : Int32) else (0 : Int32)))])) t → Steps p.tables e below (s₁.setTop (mkF m 17 #[.val (.ref a1), .val (.int (4 : Int32)), .val (.int p3), .val (.int p4), .val (.int p5), .val (.int p6), .unset, .unset, .unset] [(.int p6), (.int c4)])) t := by
        intro t k
        by_cases h12 : c4 = p6
        · rw [show (if c4 = p6 then (1 : Int32) else (0 : Int32)) = (1 : Int32) from if_pos h12] at k
          show Steps p.tables e below (s₁.setTop (mkF m 17 #[.val (.ref a1), .val (.int (4 : Int32)), .val (.int p3), .val (.int p4), .val (.int p5), .val (.int p6), .unset, .unset, .unset] [(.int p6), (.int c4)])) _
          refine XS.icmpNo X0.here hx rfl (hb hby d3_17) rfl (teq h12).2 ?_
          show Steps p.tables e below (s₁.setTop (mkF m 20 #[.val (.ref a1), .val (.int (4 : Int32)), .val (.int p3), .val (.int p4), .val (.int p5), .val (.int p6), .unset, .unset, .unset] [])) _
          refine XS.iconst X0.here hx rfl (hb hby d3_20) ?_
          show Steps p.tables e below (s₁.setTop (mkF m 21 #[.val (.ref a1), .val (.int (4 : Int32)), .val (.int p3), .val (.int p4), .val (.int p5), .val (.int p6), .unset, .unset, .unset] [(.int (1 : Int32))])) _
          refine XS.goto X0.here hx rfl (pc0 := 21) (pc' := 25) rfl (hb hby d3_21) (by decide) (by decide) ?_
          exact k
        · rw [show (if c4 = p6 then (1 : Int32) else (0 : Int32)) = (0 : Int32) from if_neg h12] at k
          show Steps p.tables e below (s₁.setTop (mkF m 17 #[.val (.ref a1), .val (.int (4 : Int32)), .val (.int p3), .val (.int p4), .val (.int p5), .val (.int p6), .unset, .unset, .unset] [(.int p6), (.int c4)])) _
          refine XS.icmpYes X0.here hx rfl (pc0 := 17) (pc' := 24) rfl (hb hby d3_17) rfl (feq h12).2 (by decide) (by decide) ?_
          show Steps p.tables e below (s₁.setTop (mkF m 24 #[.val (.ref a1), .val (.int (4 : Int32)), .val (.int p3), .val (.int p4), .val (.int p5), .val (.int p6), .unset, .unset, .unset] [])) _
          refine XS.iconst X0.here hx rfl (hb hby d3_24) ?_
          exact k
      obtain ⟨fs, hr, hrun, hended, hW, hsame⟩ := X0.leave (v := some (.int ((if c4 = p6 then (1 : Int32) else (0 : Int32)) &&& 1))) (fun h => by rw [Bd.returns] at h; cases h)
      refine ⟨_, _, ?_, hrun, hended, _, _, rfl, ?_, ⟨_, rfl⟩, hW, hsame.mono (by decide) (by decide)⟩
      · show Steps p.tables e below (s₁.setTop (mkF m 9 #[.val (.ref a1), .val (.int (4 : Int32)), .val (.int p3), .val (.int p4), .val (.int p5), .val (.int p6), .unset, .unset, .unset] [(.int (p3 + p4)), (.int (4 : Int32))])) _
        refine XS.icmpNo X0.here hx rfl (hb hby d3_9) rfl (flt h5).1 ?_
        show Steps p.tables e below (s₁.setTop (mkF m 12 #[.val (.ref a1), .val (.int (4 : Int32)), .val (.int p3), .val (.int p4), .val (.int p5), .val (.int p6), .unset, .unset, .unset] [])) _
        refine XS.aloadN X0.here hx rfl (hb hby d3_12) rfl rfl ?_
        show Steps p.tables e below (s₁.setTop (mkF m 13 #[.val (.ref a1), .val (.int (4 : Int32)), .val (.int p3), .val (.int p4), .val (.int p5), .val (.int p6), .unset, .unset, .unset] [(.ref a1)])) _
        refine XS.iloadN X0.here hx rfl (hb hby d3_13) rfl ?_
        show Steps p.tables e below (s₁.setTop (mkF m 14 #[.val (.ref a1), .val (.int (4 : Int32)), .val (.int p3), .val (.int p4), .val (.int p5), .val (.int p6), .unset, .unset, .unset] [(.int (4 : Int32)), (.ref a1)])) _
        refine X0.baloadBytes hx (j := (4 : Int32)) (v := (.int c4)) (by rw [e0]; exact Ar11.1) (State.isArrayOf_alike hZ.alike Ar11.2.1) Ar11.2.2 hin11 hat11 (g := (mkF m 14 #[.val (.ref a1), .val (.int (4 : Int32)), .val (.int p3), .val (.int p4), .val (.int p5), .val (.int p6), .unset, .unset, .unset] [(.int (4 : Int32)), (.ref a1)])) rfl rfl (hb hby d3_14) _ ?_
        show Steps p.tables e below (s₁.setTop (mkF m 15 #[.val (.ref a1), .val (.int (4 : Int32)), .val (.int p3), .val (.int p4), .val (.int p5), .val (.int p6), .unset, .unset, .unset] [(.int c4)])) _
        refine XS.iload X0.here hx rfl (hb hby d3_15) rfl ?_
        show Steps p.tables e below (s₁.setTop (mkF m 17 #[.val (.ref a1), .val (.int (4 : Int32)), .val (.int p3), .val (.int p4), .val (.int p5), .val (.int p6), .unset, .unset, .unset] [(.int p6), (.int c4)])) _
        refine st13 _ ?_
        show Steps p.tables e below (s₁.setTop (mkF m 25 #[.val (.ref a1), .val (.int (4 : Int32)), .val (.int p3), .val (.int p4), .val (.int p5), .val (.int p6), .unset, .unset, .unset] [(.int (if c4 = p6 then (1 : Int32) else (0 : Int32)))])) _
        exact retN X0 hx (t := .boolean) Bd.returns (by simp) (hb hby d3_25) hr
      · show Qok4 Z a1 p3 p4 p5 p6 k1 c0 c1 c2 c3 c4 c5 c6 c7 c8 h0 n0 _ s₁.heap _
        rw [e0]
        have hf : fok4 p3 p4 p5 p6 c0 c1 c2 c3 c4 c5 c6 c7 c8 = ((if c4 = p6 then (1 : Int32) else (0 : Int32)) &&& 1) := by simp only [fok4, if_neg h1, if_neg h5]
        exact ⟨by rw [hf], N0, rfl⟩
theorem pn_ok5 : plainName "com/example/stratum/stratum/index/PostingsPutVarIntPinLaw" = true := by first | (simp [plainName, overriddenIn]; done) | decide +kernel
theorem ef_ok5 (m : MethodId) (a1 : Addr) (p3 : Int32) (p4 : Int32) (p5 : Int32) (p6 : Int32) : entryFrame m #[(.ref a1), (.int (5 : Int32)), (.int p3), (.int p4), (.int p5), (.int p6)] 9 = mkF m 0 #[.val (.ref a1), .val (.int (5 : Int32)), .val (.int p3), .val (.int p4), .val (.int p5), .val (.int p6), .unset, .unset, .unset] [] := by first | (simp [entryFrame, mkF, argsToLocals, Value.category]; done) | rfl
def Qok5 (Z : State) (a1 : Addr) (p3 : Int32) (p4 : Int32) (p5 : Int32) (p6 : Int32) (k1 : ClassId) (c0 : Int32) (c1 : Int32) (c2 : Int32) (c3 : Int32) (c4 : Int32) (c5 : Int32) (c6 : Int32) (c7 : Int32) (c8 : Int32) (h0 : Heap) (n0 : Nat) (v : Option Value) (h : Heap) (L : List Loc) : Prop := v = some (.int (fok5 p3 p4 p5 p6 c0 c1 c2 c3 c4 c5 c6 c7 c8)) ∧ Fr n0 L ∧ h = h0
set_option maxRecDepth 65536 in
set_option maxHeartbeats 40000000 in
theorem rmok5 (l : Launch) (Z : State) (a0 : Array Value) (hw : ∀ d ∈ tables_1, d.before a0 Z = true) (ws : List Jvm.Cond) (a1 : Addr) (p3 : Int32) (p4 : Int32) (p5 : Int32) (p6 : Int32) (k1 : ClassId) (c0 : Int32) (c1 : Int32) (c2 : Int32) (c3 : Int32) (c4 : Int32) (c5 : Int32) (c6 : Int32) (c7 : Int32) (c8 : Int32) (h0 : Heap) (n0 : Nat) (Z0 : n0 ≤ h0.size) (A_a1 : Arv Z h0 a1 k1 .byte (9 : Int32) [(.int c0), (.int c1), (.int c2), (.int c3), (.int c4), (.int c5), (.int c6), (.int c7), (.int c8)] (.int (0 : Int32))) :
    MetFree l (⟨"com/example/stratum/stratum/index/PostingsPutVarIntPinLaw", "ok", "([BIIIIB)Z"⟩ : MethodName) (head1 (Jvm.Cond.code (⟨"com/example/stratum/stratum/index/PostingsPutVarIntPinLaw", "ok", "([BIIIIB)Z"⟩ : MethodName) method_4_code 9 (some .boolean) :: ws) ({ frames := 0, cells := 0, slots := 0, locals := 0 } : Room)) (fun a U => a = #[(.ref a1), (.int (5 : Int32)), (.int p3), (.int p4), (.int p5), (.int p6)] ∧ Z.Warmed39 U.vm ∧ U.heap = h0) (fun _ _ _ _ _ => True) (fun _ U o U' => ∃ v L, o = .returned v ∧ Qok5 Z a1 p3 p4 p5 p6 k1 c0 c1 c2 c3 c4 c5 c6 c7 c8 h0 n0 v U'.heap L ∧ FrameEnd U o U' L ({ frames := 0, cells := 0, slots := 0, locals := 0 } : Room).cells ({ frames := 0, cells := 0, slots := 0, locals := 0 } : Room).slots) := by
  refine MetFree.of_bodySF (plainFor_of_name pn_ok5) hisR ?_
  intro p e s m args below meth c s₁ Bd hml0 hP hK
  obtain ⟨rfl, hZ, hh⟩ := hP
  have hx := Bd.exec
  have hby := Bd.bytes
  have hml : c.maxLocals = 9 := hml0
  have hown : s.vm.findClass "com/example/stratum/stratum/index/PostingsPutVarIntPinLaw" = some m.cls := findClass_of_methodNamed Bd.named
  have hnm := (name_of_methodNamed Bd.named Bd.method).1
  have X0 : Stand p l e ({ frames := 0, cells := 0, slots := 0, locals := 0 } : Room) s m #[(.ref a1), (.int (5 : Int32)), (.int p3), (.int p4), (.int p5), (.int p6)] below meth c s₁ [] 0 0 := Stand.of_body Bd
  have e0 : s₁.heap = h0 := by rw [← hh, Bd.state]; rfl
  have N0 := Fr.nil n0
  have pre0 : ∀ t, Steps p.tables e below (s₁.setTop (mkF m 0 #[.val (.ref a1), .val (.int (5 : Int32)), .val (.int p3), .val (.int p4), .val (.int p5), .val (.int p6), .unset, .unset, .unset] [])) t → Steps p.tables e below (s₁.setTop (entryFrame m #[(.ref a1), (.int (5 : Int32)), (.int p3), (.int p4), (.int p5), (.int p6)] 9)) t := fun t k => castTop (ef_ok5 m a1 p3 p4 p5 p6) k
  refine own_step (Q := fun o U' => ∃ v L, o = .returned v ∧ Qok5 Z a1 p3 p4 p5 p6 k1 c0 c1 c2 c3 c4 c5 c6 c7 c8 h0 n0 v U'.heap L ∧ FrameEnd s o U' L ({ frames := 0, cells := 0, slots := 0, locals := 0 } : Room).cells ({ frames := 0, cells := 0, slots := 0, locals := 0 } : Room).slots) pre0 ?_
  refine own_step (B := s₁.setTop (mkF m 2 #[.val (.ref a1), .val (.int (5 : Int32)), .val (.int p3), .val (.int p4), .val (.int p5), .val (.int p6), .unset, .unset, .unset] [(.int p3), (.int (5 : Int32))])) (fun t k => ?_) ?_
  · show Steps p.tables e below (s₁.setTop (mkF m 0 #[.val (.ref a1), .val (.int (5 : Int32)), .val (.int p3), .val (.int p4), .val (.int p5), .val (.int p6), .unset, .unset, .unset] [])) _
    refine XS.iloadN X0.here hx rfl (hb hby d3_0) rfl ?_
    show Steps p.tables e below (s₁.setTop (mkF m 1 #[.val (.ref a1), .val (.int (5 : Int32)), .val (.int p3), .val (.int p4), .val (.int p5), .val (.int p6), .unset, .unset, .unset] [(.int (5 : Int32))])) _
    refine XS.iloadN X0.here hx rfl (hb hby d3_1) rfl ?_
    exact k
  by_cases h1 : (5 : Int32) < p3
  · obtain ⟨cl2, Ar2, -, S2, M2, H2, -⟩ := id A_a1
    have hin2 := inb_of (j := (5 : Int32)) S2 (by decide)
    have hat2 := H2.at hin2 (v := (.int c5)) (rfl)
    have st4 : ∀ t, Steps p.tables e below (s₁.setTop (mkF m 25 #[.val (.ref a1), .val (.int (5 : Int32)), .val (.int p3), .val (.int p4), .val (.int p5), .val (.int p6), .unset, .unset, .unset] [(.int (if c5 = p6 then (1 : Int32) else (0 : Int32)))])) t → Steps p.tables e below (s₁.setTop (mkF m 17 #[.val (.ref a1), .val (.int (5 : Int32)), .val (.int p3), .val (.int p4), .val (.int p5), .val (.int p6), .unset, .unset, .unset] [(.int p6), (.int c5)])) t := by
      intro t k
      by_cases h3 : c5 = p6
      · rw [show (if c5 = p6 then (1 : Int32) else (0 : Int32)) = (1 : Int32) from if_pos h3] at k
        show Steps p.tables e below (s₁.setTop (mkF m 17 #[.val (.ref a1), .val (.int (5 : Int32)), .val (.int p3), .val (.int p4), .val (.int p5), .val (.int p6), .unset, .unset, .unset] [(.int p6), (.int c5)])) _
        refine XS.icmpNo X0.here hx rfl (hb hby d3_17) rfl (teq h3).2 ?_
        show Steps p.tables e below (s₁.setTop (mkF m 20 #[.val (.ref a1), .val (.int (5 : Int32)), .val (.int p3), .val (.int p4), .val (.int p5), .val (.int p6), .unset, .unset, .unset] [])) _
        refine XS.iconst X0.here hx rfl (hb hby d3_20) ?_
        show Steps p.tables e below (s₁.setTop (mkF m 21 #[.val (.ref a1), .val (.int (5 : Int32)), .val (.int p3), .val (.int p4), .val (.int p5), .val (.int p6), .unset, .unset, .unset] [(.int (1 : Int32))])) _
        refine XS.goto X0.here hx rfl (pc0 := 21) (pc' := 25) rfl (hb hby d3_21) (by decide) (by decide) ?_
        exact k
      · rw [show (if c5 = p6 then (1 : Int32) else (0 : Int32)) = (0 : Int32) from if_neg h3] at k
        show Steps p.tables e below (s₁.setTop (mkF m 17 #[.val (.ref a1), .val (.int (5 : Int32)), .val (.int p3), .val (.int p4), .val (.int p5), .val (.int p6), .unset, .unset, .unset] [(.int p6), (.int c5)])) _
        refine XS.icmpYes X0.here hx rfl (pc0 := 17) (pc' := 24) rfl (hb hby d3_17) rfl (feq h3).2 (by decide) (by decide) ?_
        show Steps p.tables e below (s₁.setTop (mkF m 24 #[.val (.ref a1), .val (.int (5 : Int32)), .val (.int p3), .val (.int p4), .val (.int p5), .val (.int p6), .unset, .unset, .unset] [])) _
        refine XS.iconst X0.here hx rfl (hb hby d3_24) ?_
        exact k
    obtain ⟨fs, hr, hrun, hended, hW, hsame⟩ := X0.leave (v := some (.int ((if c5 = p6 then (1 : Int32) else (0 : Int32)) &&& 1))) (fun h => by rw [Bd.returns] at h; cases h)
    refine ⟨_, _, ?_, hrun, hended, _, _, rfl, ?_, ⟨_, rfl⟩, hW, hsame.mono (by decide) (by decide)⟩
    · show Steps p.tables e below (s₁.setTop (mkF m 2 #[.val (.ref a1), .val (.int (5 : Int32)), .val (.int p3), .val (.int p4), .val (.int p5), .val (.int p6), .unset, .unset, .unset] [(.int p3), (.int (5 : Int32))])) _
      refine XS.icmpYes X0.here hx rfl (pc0 := 2) (pc' := 12) rfl (hb hby d3_2) rfl (tlt h1).1 (by decide) (by decide) ?_
      show Steps p.tables e below (s₁.setTop (mkF m 12 #[.val (.ref a1), .val (.int (5 : Int32)), .val (.int p3), .val (.int p4), .val (.int p5), .val (.int p6), .unset, .unset, .unset] [])) _
      refine XS.aloadN X0.here hx rfl (hb hby d3_12) rfl rfl ?_
      show Steps p.tables e below (s₁.setTop (mkF m 13 #[.val (.ref a1), .val (.int (5 : Int32)), .val (.int p3), .val (.int p4), .val (.int p5), .val (.int p6), .unset, .unset, .unset] [(.ref a1)])) _
      refine XS.iloadN X0.here hx rfl (hb hby d3_13) rfl ?_
      show Steps p.tables e below (s₁.setTop (mkF m 14 #[.val (.ref a1), .val (.int (5 : Int32)), .val (.int p3), .val (.int p4), .val (.int p5), .val (.int p6), .unset, .unset, .unset] [(.int (5 : Int32)), (.ref a1)])) _
      refine X0.baloadBytes hx (j := (5 : Int32)) (v := (.int c5)) (by rw [e0]; exact Ar2.1) (State.isArrayOf_alike hZ.alike Ar2.2.1) Ar2.2.2 hin2 hat2 (g := (mkF m 14 #[.val (.ref a1), .val (.int (5 : Int32)), .val (.int p3), .val (.int p4), .val (.int p5), .val (.int p6), .unset, .unset, .unset] [(.int (5 : Int32)), (.ref a1)])) rfl rfl (hb hby d3_14) _ ?_
      show Steps p.tables e below (s₁.setTop (mkF m 15 #[.val (.ref a1), .val (.int (5 : Int32)), .val (.int p3), .val (.int p4), .val (.int p5), .val (.int p6), .unset, .unset, .unset] [(.int c5)])) _
      refine XS.iload X0.here hx rfl (hb hby d3_15) rfl ?_
      show Steps p.tables e below (s₁.setTop (mkF m 17 #[.val (.ref a1), .val (.int (5 : Int32)), .val (.int p3), .val (.int p4), .val (.int p5), .val (.int p6), .unset, .unset, .unset] [(.int p6), (.int c5)])) _
      refine st4 _ ?_
      show Steps p.tables e below (s₁.setTop (mkF m 25 #[.val (.ref a1), .val (.int (5 : Int32)), .val (.int p3), .val (.int p4), .val (.int p5), .val (.int p6), .unset, .unset, .unset] [(.int (if c5 = p6 then (1 : Int32) else (0 : Int32)))])) _
      exact retN X0 hx (t := .boolean) Bd.returns (by simp) (hb hby d3_25) hr
    · show Qok5 Z a1 p3 p4 p5 p6 k1 c0 c1 c2 c3 c4 c5 c6 c7 c8 h0 n0 _ s₁.heap _
      rw [e0]
      have hf : fok5 p3 p4 p5 p6 c0 c1 c2 c3 c4 c5 c6 c7 c8 = ((if c5 = p6 then (1 : Int32) else (0 : Int32)) &&& 1) := by simp only [fok5, if_pos h1]
      exact ⟨by rw [hf], N0, rfl⟩
  · refine own_step (B := s₁.setTop (mkF m 9 #[.val (.ref a1), .val (.int (5 : Int32)), .val (.int p3), .val (.int p4), .val (.int p5), .val (.int p6), .unset, .unset, .unset] [(.int (p3 + p4)), (.int (5 : Int32))])) (fun t k => ?_) ?_
    · show Steps p.tables e below (s₁.setTop (mkF m 2 #[.val (.ref a1), .val (.int (5 : Int32)), .val (.int p3), .val (.int p4), .val (.int p5), .val (.int p6), .unset, .unset, .unset] [(.int p3), (.int (5 : Int32))])) _
      refine XS.icmpNo X0.here hx rfl (hb hby d3_2) rfl (flt h1).1 ?_
      show Steps p.tables e below (s₁.setTop (mkF m 5 #[.val (.ref a1), .val (.int (5 : Int32)), .val (.int p3), .val (.int p4), .val (.int p5), .val (.int p6), .unset, .unset, .unset] [])) _
      refine XS.iloadN X0.here hx rfl (hb hby d3_5) rfl ?_
      show Steps p.tables e below (s₁.setTop (mkF m 6 #[.val (.ref a1), .val (.int (5 : Int32)), .val (.int p3), .val (.int p4), .val (.int p5), .val (.int p6), .unset, .unset, .unset] [(.int (5 : Int32))])) _
      refine XS.iloadN X0.here hx rfl (hb hby d3_6) rfl ?_
      show Steps p.tables e below (s₁.setTop (mkF m 7 #[.val (.ref a1), .val (.int (5 : Int32)), .val (.int p3), .val (.int p4), .val (.int p5), .val (.int p6), .unset, .unset, .unset] [(.int p3), (.int (5 : Int32))])) _
      refine XS.iloadN X0.here hx rfl (hb hby d3_7) rfl ?_
      show Steps p.tables e below (s₁.setTop (mkF m 8 #[.val (.ref a1), .val (.int (5 : Int32)), .val (.int p3), .val (.int p4), .val (.int p5), .val (.int p6), .unset, .unset, .unset] [(.int p4), (.int p3), (.int (5 : Int32))])) _
      refine XS.iadd X0.here hx rfl (hb hby d3_8) rfl ?_
      exact k
    by_cases h5 : (5 : Int32) < (p3 + p4)
    · have st7 : ∀ t, Steps p.tables e below (s₁.setTop (mkF m 63 #[.val (.ref a1), .val (.int (5 : Int32)), .val (.int p3), .val (.int p4), .val (.int p5), .val (.int p6), .val (.int ((5 : Int32) - p3)), .val (.int ((XT.ushr p5 ((7 : Int32) * ((5 : Int32) - p3))) &&& (127 : Int32))), .unset] [(.int (fok5_0 p3 p4 p5 p6 c0 c1 c2 c3 c4 c5 c6 c7 c8))])) t → Steps p.tables e below (s₁.setTop (mkF m 49 #[.val (.ref a1), .val (.int (5 : Int32)), .val (.int p3), .val (.int p4), .val (.int p5), .val (.int p6), .val (.int ((5 : Int32) - p3)), .val (.int ((XT.ushr p5 ((7 : Int32) * ((5 : Int32) - p3))) &&& (127 : Int32))), .unset] [(.int (p4 - (1 : Int32))), (.int ((5 : Int32) - p3))])) t := by
        intro t k
        by_cases h6 : ((5 : Int32) - p3) < (p4 - (1 : Int32))
        · rw [show (fok5_0 p3 p4 p5 p6 c0 c1 c2 c3 c4 c5 c6 c7 c8) = (((XT.ushr p5 ((7 : Int32) * ((5 : Int32) - p3))) &&& (127 : Int32)) ||| (128 : Int32)) from if_pos h6] at k
          show Steps p.tables e below (s₁.setTop (mkF m 49 #[.val (.ref a1), .val (.int (5 : Int32)), .val (.int p3), .val (.int p4), .val (.int p5), .val (.int p6), .val (.int ((5 : Int32) - p3)), .val (.int ((XT.ushr p5 ((7 : Int32) * ((5 : Int32) - p3))) &&& (127 : Int32))), .unset] [(.int (p4 - (1 : Int32))), (.int ((5 : Int32) - p3))])) _
          refine XS.icmpNo X0.here hx rfl (hb hby d3_49) rfl (tlt h6).2.1 ?_
          show Steps p.tables e below (s₁.setTop (mkF m 52 #[.val (.ref a1), .val (.int (5 : Int32)), .val (.int p3), .val (.int p4), .val (.int p5), .val (.int p6), .val (.int ((5 : Int32) - p3)), .val (.int ((XT.ushr p5 ((7 : Int32) * ((5 : Int32) - p3))) &&& (127 : Int32))), .unset] [])) _
          refine XS.iload X0.here hx rfl (hb hby d3_52) rfl ?_
          show Steps p.tables e below (s₁.setTop (mkF m 54 #[.val (.ref a1), .val (.int (5 : Int32)), .val (.int p3), .val (.int p4), .val (.int p5), .val (.int p6), .val (.int ((5 : Int32) - p3)), .val (.int ((XT.ushr p5 ((7 : Int32) * ((5 : Int32) - p3))) &&& (127 : Int32))), .unset] [(.int ((XT.ushr p5 ((7 : Int32) * ((5 : Int32) - p3))) &&& (127 : Int32)))])) _
          refine XS.sipush X0.here hx rfl (hb hby d3_54) ?_
          show Steps p.tables e below (s₁.setTop (mkF m 57 #[.val (.ref a1), .val (.int (5 : Int32)), .val (.int p3), .val (.int p4), .val (.int p5), .val (.int p6), .val (.int ((5 : Int32) - p3)), .val (.int ((XT.ushr p5 ((7 : Int32) * ((5 : Int32) - p3))) &&& (127 : Int32))), .unset] [(.int (128 : Int32)), (.int ((XT.ushr p5 ((7 : Int32) * ((5 : Int32) - p3))) &&& (127 : Int32)))])) _
          refine XT.ior X0.here hx rfl (hb hby d3_57) rfl ?_
          show Steps p.tables e below (s₁.setTop (mkF m 58 #[.val (.ref a1), .val (.int (5 : Int32)), .val (.int p3), .val (.int p4), .val (.int p5), .val (.int p6), .val (.int ((5 : Int32) - p3)), .val (.int ((XT.ushr p5 ((7 : Int32) * ((5 : Int32) - p3))) &&& (127 : Int32))), .unset] [(.int (((XT.ushr p5 ((7 : Int32) * ((5 : Int32) - p3))) &&& (127 : Int32)) ||| (128 : Int32)))])) _
          refine XS.goto X0.here hx rfl (pc0 := 58) (pc' := 63) rfl (hb hby d3_58) (by decide) (by decide) ?_
          exact k
        · rw [show (fok5_0 p3 p4 p5 p6 c0 c1 c2 c3 c4 c5 c6 c7 c8) = ((XT.ushr p5 ((7 : Int32) * ((5 : Int32) - p3))) &&& (127 : Int32)) from if_neg h6] at k
          show Steps p.tables e below (s₁.setTop (mkF m 49 #[.val (.ref a1), .val (.int (5 : Int32)), .val (.int p3), .val (.int p4), .val (.int p5), .val (.int p6), .val (.int ((5 : Int32) - p3)), .val (.int ((XT.ushr p5 ((7 : Int32) * ((5 : Int32) - p3))) &&& (127 : Int32))), .unset] [(.int (p4 - (1 : Int32))), (.int ((5 : Int32) - p3))])) _
          refine XS.icmpYes X0.here hx rfl (pc0 := 49) (pc' := 61) rfl (hb hby d3_49) rfl (flt h6).2.1 (by decide) (by decide) ?_
          show Steps p.tables e below (s₁.setTop (mkF m 61 #[.val (.ref a1), .val (.int (5 : Int32)), .val (.int p3), .val (.int p4), .val (.int p5), .val (.int p6), .val (.int ((5 : Int32) - p3)), .val (.int ((XT.ushr p5 ((7 : Int32) * ((5 : Int32) - p3))) &&& (127 : Int32))), .unset] [])) _
          refine XS.iload X0.here hx rfl (hb hby d3_61) rfl ?_
          exact k
      obtain ⟨cl8, Ar8, -, S8, M8, H8, -⟩ := id A_a1
      have hin8 := inb_of (j := (5 : Int32)) S8 (by decide)
      have hat8 := H8.at hin8 (v := (.int c5)) (rfl)
      have st10 : ∀ t, Steps p.tables e below (s₁.setTop (mkF m 79 #[.val (.ref a1), .val (.int (5 : Int32)), .val (.int p3), .val (.int p4), .val (.int p5), .val (.int p6), .val (.int ((5 : Int32) - p3)), .val (.int ((XT.ushr p5 ((7 : Int32) * ((5 : Int32) - p3))) &&& (127 : Int32))), .val (.int (fok5_0 p3 p4 p5 p6 c0 c1 c2 c3 c4 c5 c6 c7 c8))] [(.int (fok5_1 p3 p4 p5 p6 c0 c1 c2 c3 c4 c5 c6 c7 c8))])) t → Steps p.tables e below (s₁.setTop (mkF m 71 #[.val (.ref a1), .val (.int (5 : Int32)), .val (.int p3), .val (.int p4), .val (.int p5), .val (.int p6), .val (.int ((5 : Int32) - p3)), .val (.int ((XT.ushr p5 ((7 : Int32) * ((5 : Int32) - p3))) &&& (127 : Int32))), .val (.int (fok5_0 p3 p4 p5 p6 c0 c1 c2 c3 c4 c5 c6 c7 c8))] [(.int (fok5_0 p3 p4 p5 p6 c0 c1 c2 c3 c4 c5 c6 c7 c8).toInt8.toInt32), (.int c5)])) t := by
        intro t k
        by_cases h9 : c5 = (fok5_0 p3 p4 p5 p6 c0 c1 c2 c3 c4 c5 c6 c7 c8).toInt8.toInt32
        · rw [show (fok5_1 p3 p4 p5 p6 c0 c1 c2 c3 c4 c5 c6 c7 c8) = (1 : Int32) from if_pos h9] at k
          show Steps p.tables e below (s₁.setTop (mkF m 71 #[.val (.ref a1), .val (.int (5 : Int32)), .val (.int p3), .val (.int p4), .val (.int p5), .val (.int p6), .val (.int ((5 : Int32) - p3)), .val (.int ((XT.ushr p5 ((7 : Int32) * ((5 : Int32) - p3))) &&& (127 : Int32))), .val (.int (fok5_0 p3 p4 p5 p6 c0 c1 c2 c3 c4 c5 c6 c7 c8))] [(.int (fok5_0 p3 p4 p5 p6 c0 c1 c2 c3 c4 c5 c6 c7 c8).toInt8.toInt32), (.int c5)])) _
          refine XS.icmpNo X0.here hx rfl (hb hby d3_71) rfl (teq h9).2 ?_
          show Steps p.tables e below (s₁.setTop (mkF m 74 #[.val (.ref a1), .val (.int (5 : Int32)), .val (.int p3), .val (.int p4), .val (.int p5), .val (.int p6), .val (.int ((5 : Int32) - p3)), .val (.int ((XT.ushr p5 ((7 : Int32) * ((5 : Int32) - p3))) &&& (127 : Int32))), .val (.int (fok5_0 p3 p4 p5 p6 c0 c1 c2 c3 c4 c5 c6 c7 c8))] [])) _
          refine XS.iconst X0.here hx rfl (hb hby d3_74) ?_
          show Steps p.tables e below (s₁.setTop (mkF m 75 #[.val (.ref a1), .val (.int (5 : Int32)), .val (.int p3), .val (.int p4), .val (.int p5), .val (.int p6), .val (.int ((5 : Int32) - p3)), .val (.int ((XT.ushr p5 ((7 : Int32) * ((5 : Int32) - p3))) &&& (127 : Int32))), .val (.int (fok5_0 p3 p4 p5 p6 c0 c1 c2 c3 c4 c5 c6 c7 c8))] [(.int (1 : Int32))])) _
          refine XS.goto X0.here hx rfl (pc0 := 75) (pc' := 79) rfl (hb hby d3_75) (by decide) (by decide) ?_
          exact k
        · rw [show (fok5_1 p3 p4 p5 p6 c0 c1 c2 c3 c4 c5 c6 c7 c8) = (0 : Int32) from if_neg h9] at k
          show Steps p.tables e below (s₁.setTop (mkF m 71 #[.val (.ref a1), .val (.int (5 : Int32)), .val (.int p3), .val (.int p4), .val (.int p5), .val (.int p6), .val (.int ((5 : Int32) - p3)), .val (.int ((XT.ushr p5 ((7 : Int32) * ((5 : Int32) - p3))) &&& (127 : Int32))), .val (.int (fok5_0 p3 p4 p5 p6 c0 c1 c2 c3 c4 c5 c6 c7 c8))] [(.int (fok5_0 p3 p4 p5 p6 c0 c1 c2 c3 c4 c5 c6 c7 c8).toInt8.toInt32), (.int c5)])) _
          refine XS.icmpYes X0.here hx rfl (pc0 := 71) (pc' := 78) rfl (hb hby d3_71) rfl (feq h9).2 (by decide) (by decide) ?_
          show Steps p.tables e below (s₁.setTop (mkF m 78 #[.val (.ref a1), .val (.int (5 : Int32)), .val (.int p3), .val (.int p4), .val (.int p5), .val (.int p6), .val (.int ((5 : Int32) - p3)), .val (.int ((XT.ushr p5 ((7 : Int32) * ((5 : Int32) - p3))) &&& (127 : Int32))), .val (.int (fok5_0 p3 p4 p5 p6 c0 c1 c2 c3 c4 c5 c6 c7 c8))] [])) _
          refine XS.iconst X0.here hx rfl (hb hby d3_78) ?_
          exact k
      obtain ⟨fs, hr, hrun, hended, hW, hsame⟩ := X0.leave (v := some (.int ((fok5_1 p3 p4 p5 p6 c0 c1 c2 c3 c4 c5 c6 c7 c8) &&& 1))) (fun h => by rw [Bd.returns] at h; cases h)
      refine ⟨_, _, ?_, hrun, hended, _, _, rfl, ?_, ⟨_, rfl⟩, hW, hsame.mono (by decide) (by decide)⟩
      · show Steps p.tables e below (s₁.setTop (mkF m 9 #[.val (.ref a1), .val (.int (5 : Int32)), .val (.int p3), .val (.int p4), .val (.int p5), .val (.int p6), .unset, .unset, .unset] [(.int (p3 + p4)), (.int (5 : Int32))])) _
        refine XS.icmpYes X0.here hx rfl (pc0 := 9) (pc' := 26) rfl (hb hby d3_9) rfl (tlt h5).1 (by decide) (by decide) ?_
        show Steps p.tables e below (s₁.setTop (mkF m 26 #[.val (.ref a1), .val (.int (5 : Int32)), .val (.int p3), .val (.int p4), .val (.int p5), .val (.int p6), .unset, .unset, .unset] [])) _
        refine XS.iloadN X0.here hx rfl (hb hby d3_26) rfl ?_
        show Steps p.tables e below (s₁.setTop (mkF m 27 #[.val (.ref a1), .val (.int (5 : Int32)), .val (.int p3), .val (.int p4), .val (.int p5), .val (.int p6), .unset, .unset, .unset] [(.int (5 : Int32))])) _
        refine XS.iloadN X0.here hx rfl (hb hby d3_27) rfl ?_
        show Steps p.tables e below (s₁.setTop (mkF m 28 #[.val (.ref a1), .val (.int (5 : Int32)), .val (.int p3), .val (.int p4), .val (.int p5), .val (.int p6), .unset, .unset, .unset] [(.int p3), (.int (5 : Int32))])) _
        refine XS.isub X0.here hx rfl (hb hby d3_28) rfl ?_
        show Steps p.tables e below (s₁.setTop (mkF m 29 #[.val (.ref a1), .val (.int (5 : Int32)), .val (.int p3), .val (.int p4), .val (.int p5), .val (.int p6), .unset, .unset, .unset] [(.int ((5 : Int32) - p3))])) _
        refine XS.istore X0.here hx rfl (hb hby d3_29) rfl (l' := #[.val (.ref a1), .val (.int (5 : Int32)), .val (.int p3), .val (.int p4), .val (.int p5), .val (.int p6), .val (.int ((5 : Int32) - p3)), .unset, .unset]) rfl ?_
        show Steps p.tables e below (s₁.setTop (mkF m 31 #[.val (.ref a1), .val (.int (5 : Int32)), .val (.int p3), .val (.int p4), .val (.int p5), .val (.int p6), .val (.int ((5 : Int32) - p3)), .unset, .unset] [])) _
        refine XS.iload X0.here hx rfl (hb hby d3_31) rfl ?_
        show Steps p.tables e below (s₁.setTop (mkF m 33 #[.val (.ref a1), .val (.int (5 : Int32)), .val (.int p3), .val (.int p4), .val (.int p5), .val (.int p6), .val (.int ((5 : Int32) - p3)), .unset, .unset] [(.int p5)])) _
        refine XS.bipush X0.here hx rfl (hb hby d3_33) ?_
        show Steps p.tables e below (s₁.setTop (mkF m 35 #[.val (.ref a1), .val (.int (5 : Int32)), .val (.int p3), .val (.int p4), .val (.int p5), .val (.int p6), .val (.int ((5 : Int32) - p3)), .unset, .unset] [(.int (7 : Int32)), (.int p5)])) _
        refine XS.iload X0.here hx rfl (hb hby d3_35) rfl ?_
        show Steps p.tables e below (s₁.setTop (mkF m 37 #[.val (.ref a1), .val (.int (5 : Int32)), .val (.int p3), .val (.int p4), .val (.int p5), .val (.int p6), .val (.int ((5 : Int32) - p3)), .unset, .unset] [(.int ((5 : Int32) - p3)), (.int (7 : Int32)), (.int p5)])) _
        refine XS.imul X0.here hx rfl (hb hby d3_37) rfl ?_
        show Steps p.tables e below (s₁.setTop (mkF m 38 #[.val (.ref a1), .val (.int (5 : Int32)), .val (.int p3), .val (.int p4), .val (.int p5), .val (.int p6), .val (.int ((5 : Int32) - p3)), .unset, .unset] [(.int ((7 : Int32) * ((5 : Int32) - p3))), (.int p5)])) _
        refine XT.iushr X0.here hx rfl (hb hby d3_38) rfl ?_
        show Steps p.tables e below (s₁.setTop (mkF m 39 #[.val (.ref a1), .val (.int (5 : Int32)), .val (.int p3), .val (.int p4), .val (.int p5), .val (.int p6), .val (.int ((5 : Int32) - p3)), .unset, .unset] [(.int (XT.ushr p5 ((7 : Int32) * ((5 : Int32) - p3))))])) _
        refine XS.bipush X0.here hx rfl (hb hby d3_39) ?_
        show Steps p.tables e below (s₁.setTop (mkF m 41 #[.val (.ref a1), .val (.int (5 : Int32)), .val (.int p3), .val (.int p4), .val (.int p5), .val (.int p6), .val (.int ((5 : Int32) - p3)), .unset, .unset] [(.int (127 : Int32)), (.int (XT.ushr p5 ((7 : Int32) * ((5 : Int32) - p3))))])) _
        refine XS.iand X0.here hx rfl (hb hby d3_41) rfl ?_
        show Steps p.tables e below (s₁.setTop (mkF m 42 #[.val (.ref a1), .val (.int (5 : Int32)), .val (.int p3), .val (.int p4), .val (.int p5), .val (.int p6), .val (.int ((5 : Int32) - p3)), .unset, .unset] [(.int ((XT.ushr p5 ((7 : Int32) * ((5 : Int32) - p3))) &&& (127 : Int32)))])) _
        refine XS.istore X0.here hx rfl (hb hby d3_42) rfl (l' := #[.val (.ref a1), .val (.int (5 : Int32)), .val (.int p3), .val (.int p4), .val (.int p5), .val (.int p6), .val (.int ((5 : Int32) - p3)), .val (.int ((XT.ushr p5 ((7 : Int32) * ((5 : Int32) - p3))) &&& (127 : Int32))), .unset]) rfl ?_
        show Steps p.tables e below (s₁.setTop (mkF m 44 #[.val (.ref a1), .val (.int (5 : Int32)), .val (.int p3), .val (.int p4), .val (.int p5), .val (.int p6), .val (.int ((5 : Int32) - p3)), .val (.int ((XT.ushr p5 ((7 : Int32) * ((5 : Int32) - p3))) &&& (127 : Int32))), .unset] [])) _
        refine XS.iload X0.here hx rfl (hb hby d3_44) rfl ?_
        show Steps p.tables e below (s₁.setTop (mkF m 46 #[.val (.ref a1), .val (.int (5 : Int32)), .val (.int p3), .val (.int p4), .val (.int p5), .val (.int p6), .val (.int ((5 : Int32) - p3)), .val (.int ((XT.ushr p5 ((7 : Int32) * ((5 : Int32) - p3))) &&& (127 : Int32))), .unset] [(.int ((5 : Int32) - p3))])) _
        refine XS.iloadN X0.here hx rfl (hb hby d3_46) rfl ?_
        show Steps p.tables e below (s₁.setTop (mkF m 47 #[.val (.ref a1), .val (.int (5 : Int32)), .val (.int p3), .val (.int p4), .val (.int p5), .val (.int p6), .val (.int ((5 : Int32) - p3)), .val (.int ((XT.ushr p5 ((7 : Int32) * ((5 : Int32) - p3))) &&& (127 : Int32))), .unset] [(.int p4), (.int ((5 : Int32) - p3))])) _
        refine XS.iconst X0.here hx rfl (hb hby d3_47) ?_
        show Steps p.tables e below (s₁.setTop (mkF m 48 #[.val (.ref a1), .val (.int (5 : Int32)), .val (.int p3), .val (.int p4), .val (.int p5), .val (.int p6), .val (.int ((5 : Int32) - p3)), .val (.int ((XT.ushr p5 ((7 : Int32) * ((5 : Int32) - p3))) &&& (127 : Int32))), .unset] [(.int (1 : Int32)), (.int p4), (.int ((5 : Int32) - p3))])) _
        refine XS.isub X0.here hx rfl (hb hby d3_48) rfl ?_
        show Steps p.tables e below (s₁.setTop (mkF m 49 #[.val (.ref a1), .val (.int (5 : Int32)), .val (.int p3), .val (.int p4), .val (.int p5), .val (.int p6), .val (.int ((5 : Int32) - p3)), .val (.int ((XT.ushr p5 ((7 : Int32) * ((5 : Int32) - p3))) &&& (127 : Int32))), .unset] [(.int (p4 - (1 : Int32))), (.int ((5 : Int32) - p3))])) _
        refine st7 _ ?_
        show Steps p.tables e below (s₁.setTop (mkF m 63 #[.val (.ref a1), .val (.int (5 : Int32)), .val (.int p3), .val (.int p4), .val (.int p5), .val (.int p6), .val (.int ((5 : Int32) - p3)), .val (.int ((XT.ushr p5 ((7 : Int32) * ((5 : Int32) - p3))) &&& (127 : Int32))), .unset] [(.int (fok5_0 p3 p4 p5 p6 c0 c1 c2 c3 c4 c5 c6 c7 c8))])) _
        refine XS.istore X0.here hx rfl (hb hby d3_63) rfl (l' := #[.val (.ref a1), .val (.int (5 : Int32)), .val (.int p3), .val (.int p4), .val (.int p5), .val (.int p6), .val (.int ((5 : Int32) - p3)), .val (.int ((XT.ushr p5 ((7 : Int32) * ((5 : Int32) - p3))) &&& (127 : Int32))), .val (.int (fok5_0 p3 p4 p5 p6 c0 c1 c2 c3 c4 c5 c6 c7 c8))]) rfl ?_
        show Steps p.tables e below (s₁.setTop (mkF m 65 #[.val (.ref a1), .val (.int (5 : Int32)), .val (.int p3), .val (.int p4), .val (.int p5), .val (.int p6), .val (.int ((5 : Int32) - p3)), .val (.int ((XT.ushr p5 ((7 : Int32) * ((5 : Int32) - p3))) &&& (127 : Int32))), .val (.int (fok5_0 p3 p4 p5 p6 c0 c1 c2 c3 c4 c5 c6 c7 c8))] [])) _
        refine XS.aloadN X0.here hx rfl (hb hby d3_65) rfl rfl ?_
        show Steps p.tables e below (s₁.setTop (mkF m 66 #[.val (.ref a1), .val (.int (5 : Int32)), .val (.int p3), .val (.int p4), .val (.int p5), .val (.int p6), .val (.int ((5 : Int32) - p3)), .val (.int ((XT.ushr p5 ((7 : Int32) * ((5 : Int32) - p3))) &&& (127 : Int32))), .val (.int (fok5_0 p3 p4 p5 p6 c0 c1 c2 c3 c4 c5 c6 c7 c8))] [(.ref a1)])) _
        refine XS.iloadN X0.here hx rfl (hb hby d3_66) rfl ?_
        show Steps p.tables e below (s₁.setTop (mkF m 67 #[.val (.ref a1), .val (.int (5 : Int32)), .val (.int p3), .val (.int p4), .val (.int p5), .val (.int p6), .val (.int ((5 : Int32) - p3)), .val (.int ((XT.ushr p5 ((7 : Int32) * ((5 : Int32) - p3))) &&& (127 : Int32))), .val (.int (fok5_0 p3 p4 p5 p6 c0 c1 c2 c3 c4 c5 c6 c7 c8))] [(.int (5 : Int32)), (.ref a1)])) _
        refine X0.baloadBytes hx (j := (5 : Int32)) (v := (.int c5)) (by rw [e0]; exact Ar8.1) (State.isArrayOf_alike hZ.alike Ar8.2.1) Ar8.2.2 hin8 hat8 (g := (mkF m 67 #[.val (.ref a1), .val (.int (5 : Int32)), .val (.int p3), .val (.int p4), .val (.int p5), .val (.int p6), .val (.int ((5 : Int32) - p3)), .val (.int ((XT.ushr p5 ((7 : Int32) * ((5 : Int32) - p3))) &&& (127 : Int32))), .val (.int (fok5_0 p3 p4 p5 p6 c0 c1 c2 c3 c4 c5 c6 c7 c8))] [(.int (5 : Int32)), (.ref a1)])) rfl rfl (hb hby d3_67) _ ?_
        show Steps p.tables e below (s₁.setTop (mkF m 68 #[.val (.ref a1), .val (.int (5 : Int32)), .val (.int p3), .val (.int p4), .val (.int p5), .val (.int p6), .val (.int ((5 : Int32) - p3)), .val (.int ((XT.ushr p5 ((7 : Int32) * ((5 : Int32) - p3))) &&& (127 : Int32))), .val (.int (fok5_0 p3 p4 p5 p6 c0 c1 c2 c3 c4 c5 c6 c7 c8))] [(.int c5)])) _
        refine XS.iload X0.here hx rfl (hb hby d3_68) rfl ?_
        show Steps p.tables e below (s₁.setTop (mkF m 70 #[.val (.ref a1), .val (.int (5 : Int32)), .val (.int p3), .val (.int p4), .val (.int p5), .val (.int p6), .val (.int ((5 : Int32) - p3)), .val (.int ((XT.ushr p5 ((7 : Int32) * ((5 : Int32) - p3))) &&& (127 : Int32))), .val (.int (fok5_0 p3 p4 p5 p6 c0 c1 c2 c3 c4 c5 c6 c7 c8))] [(.int (fok5_0 p3 p4 p5 p6 c0 c1 c2 c3 c4 c5 c6 c7 c8)), (.int c5)])) _
        refine XT.i2b X0.here hx rfl (hb hby d3_70) rfl ?_
        show Steps p.tables e below (s₁.setTop (mkF m 71 #[.val (.ref a1), .val (.int (5 : Int32)), .val (.int p3), .val (.int p4), .val (.int p5), .val (.int p6), .val (.int ((5 : Int32) - p3)), .val (.int ((XT.ushr p5 ((7 : Int32) * ((5 : Int32) - p3))) &&& (127 : Int32))), .val (.int (fok5_0 p3 p4 p5 p6 c0 c1 c2 c3 c4 c5 c6 c7 c8))] [(.int (fok5_0 p3 p4 p5 p6 c0 c1 c2 c3 c4 c5 c6 c7 c8).toInt8.toInt32), (.int c5)])) _
        refine st10 _ ?_
        show Steps p.tables e below (s₁.setTop (mkF m 79 #[.val (.ref a1), .val (.int (5 : Int32)), .val (.int p3), .val (.int p4), .val (.int p5), .val (.int p6), .val (.int ((5 : Int32) - p3)), .val (.int ((XT.ushr p5 ((7 : Int32) * ((5 : Int32) - p3))) &&& (127 : Int32))), .val (.int (fok5_0 p3 p4 p5 p6 c0 c1 c2 c3 c4 c5 c6 c7 c8))] [(.int (fok5_1 p3 p4 p5 p6 c0 c1 c2 c3 c4 c5 c6 c7 c8))])) _
        exact retN X0 hx (t := .boolean) Bd.returns (by simp) (hb hby d3_79) hr
      · show Qok5 Z a1 p3 p4 p5 p6 k1 c0 c1 c2 c3 c4 c5 c6 c7 c8 h0 n0 _ s₁.heap _
        rw [e0]
        have hf : fok5 p3 p4 p5 p6 c0 c1 c2 c3 c4 c5 c6 c7 c8 = ((fok5_1 p3 p4 p5 p6 c0 c1 c2 c3 c4 c5 c6 c7 c8) &&& 1) := by simp only [fok5, if_neg h1, if_pos h5]
        exact ⟨by rw [hf], N0, rfl⟩
    · obtain ⟨cl11, Ar11, -, S11, M11, H11, -⟩ := id A_a1
      have hin11 := inb_of (j := (5 : Int32)) S11 (by decide)
      have hat11 := H11.at hin11 (v := (.int c5)) (rfl)
      have st13 : ∀ t, Steps p.tables e below (s₁.setTop (mkF m 25 #[.val (.ref a1), .val (.int (5 : Int32)), .val (.int p3), .val (.int p4), .val (.int p5), .val (.int p6), .unset, .unset, .unset] [(.int (if c5 = p6 then (1 : Int32) else (0 : Int32)))])) t → Steps p.tables e below (s₁.setTop (mkF m 17 #[.val (.ref a1), .val (.int (5 : Int32)), .val (.int p3), .val (.int p4), .val (.int p5), .val (.int p6), .unset, .unset, .unset] [(.int p6), (.int c5)])) t := by
        intro t k
        by_cases h12 : c5 = p6
        · rw [show (if c5 = p6 then (1 : Int32) else (0 : Int32)) = (1 : Int32) from if_pos h12] at k
          show Steps p.tables e below (s₁.setTop (mkF m 17 #[.val (.ref a1), .val (.int (5 : Int32)), .val (.int p3), .val (.int p4), .val (.int p5), .val (.int p6), .unset, .unset, .unset] [(.int p6), (.int c5)])) _
          refine XS.icmpNo X0.here hx rfl (hb hby d3_17) rfl (teq h12).2 ?_
          show Steps p.tables e below (s₁.setTop (mkF m 20 #[.val (.ref a1), .val (.int (5 : Int32)), .val (.int p3), .val (.int p4), .val (.int p5), .val (.int p6), .unset, .unset, .unset] [])) _
          refine XS.iconst X0.here hx rfl (hb hby d3_20) ?_
          show Steps p.tables e below (s₁.setTop (mkF m 21 #[.val (.ref a1), .val (.int (5 : Int32)), .val (.int p3), .val (.int p4), .val (.int p5), .val (.int p6), .unset, .unset, .unset] [(.int (1 : Int32))])) _
          refine XS.goto X0.here hx rfl (pc0 := 21) (pc' := 25) rfl (hb hby d3_21) (by decide) (by decide) ?_
          exact k
        · rw [show (if c5 = p6 then (1 : Int32) else (0 : Int32)) = (0 : Int32) from if_neg h12] at k
          show Steps p.tables e below (s₁.setTop (mkF m 17 #[.val (.ref a1), .val (.int (5 : Int32)), .val (.int p3), .val (.int p4), .val (.int p5), .val (.int p6), .unset, .unset, .unset] [(.int p6), (.int c5)])) _
          refine XS.icmpYes X0.here hx rfl (pc0 := 17) (pc' := 24) rfl (hb hby d3_17) rfl (feq h12).2 (by decide) (by decide) ?_
          show Steps p.tables e below (s₁.setTop (mkF m 24 #[.val (.ref a1), .val (.int (5 : Int32)), .val (.int p3), .val (.int p4), .val (.int p5), .val (.int p6), .unset, .unset, .unset] [])) _
          refine XS.iconst X0.here hx rfl (hb hby d3_24) ?_
          exact k
      obtain ⟨fs, hr, hrun, hended, hW, hsame⟩ := X0.leave (v := some (.int ((if c5 = p6 then (1 : Int32) else (0 : Int32)) &&& 1))) (fun h => by rw [Bd.returns] at h; cases h)
      refine ⟨_, _, ?_, hrun, hended, _, _, rfl, ?_, ⟨_, rfl⟩, hW, hsame.mono (by decide) (by decide)⟩
      · show Steps p.tables e below (s₁.setTop (mkF m 9 #[.val (.ref a1), .val (.int (5 : Int32)), .val (.int p3), .val (.int p4), .val (.int p5), .val (.int p6), .unset, .unset, .unset] [(.int (p3 + p4)), (.int (5 : Int32))])) _
        refine XS.icmpNo X0.here hx rfl (hb hby d3_9) rfl (flt h5).1 ?_
        show Steps p.tables e below (s₁.setTop (mkF m 12 #[.val (.ref a1), .val (.int (5 : Int32)), .val (.int p3), .val (.int p4), .val (.int p5), .val (.int p6), .unset, .unset, .unset] [])) _
        refine XS.aloadN X0.here hx rfl (hb hby d3_12) rfl rfl ?_
        show Steps p.tables e below (s₁.setTop (mkF m 13 #[.val (.ref a1), .val (.int (5 : Int32)), .val (.int p3), .val (.int p4), .val (.int p5), .val (.int p6), .unset, .unset, .unset] [(.ref a1)])) _
        refine XS.iloadN X0.here hx rfl (hb hby d3_13) rfl ?_
        show Steps p.tables e below (s₁.setTop (mkF m 14 #[.val (.ref a1), .val (.int (5 : Int32)), .val (.int p3), .val (.int p4), .val (.int p5), .val (.int p6), .unset, .unset, .unset] [(.int (5 : Int32)), (.ref a1)])) _
        refine X0.baloadBytes hx (j := (5 : Int32)) (v := (.int c5)) (by rw [e0]; exact Ar11.1) (State.isArrayOf_alike hZ.alike Ar11.2.1) Ar11.2.2 hin11 hat11 (g := (mkF m 14 #[.val (.ref a1), .val (.int (5 : Int32)), .val (.int p3), .val (.int p4), .val (.int p5), .val (.int p6), .unset, .unset, .unset] [(.int (5 : Int32)), (.ref a1)])) rfl rfl (hb hby d3_14) _ ?_
        show Steps p.tables e below (s₁.setTop (mkF m 15 #[.val (.ref a1), .val (.int (5 : Int32)), .val (.int p3), .val (.int p4), .val (.int p5), .val (.int p6), .unset, .unset, .unset] [(.int c5)])) _
        refine XS.iload X0.here hx rfl (hb hby d3_15) rfl ?_
        show Steps p.tables e below (s₁.setTop (mkF m 17 #[.val (.ref a1), .val (.int (5 : Int32)), .val (.int p3), .val (.int p4), .val (.int p5), .val (.int p6), .unset, .unset, .unset] [(.int p6), (.int c5)])) _
        refine st13 _ ?_
        show Steps p.tables e below (s₁.setTop (mkF m 25 #[.val (.ref a1), .val (.int (5 : Int32)), .val (.int p3), .val (.int p4), .val (.int p5), .val (.int p6), .unset, .unset, .unset] [(.int (if c5 = p6 then (1 : Int32) else (0 : Int32)))])) _
        exact retN X0 hx (t := .boolean) Bd.returns (by simp) (hb hby d3_25) hr
      · show Qok5 Z a1 p3 p4 p5 p6 k1 c0 c1 c2 c3 c4 c5 c6 c7 c8 h0 n0 _ s₁.heap _
        rw [e0]
        have hf : fok5 p3 p4 p5 p6 c0 c1 c2 c3 c4 c5 c6 c7 c8 = ((if c5 = p6 then (1 : Int32) else (0 : Int32)) &&& 1) := by simp only [fok5, if_neg h1, if_neg h5]
        exact ⟨by rw [hf], N0, rfl⟩
theorem pn_ok6 : plainName "com/example/stratum/stratum/index/PostingsPutVarIntPinLaw" = true := by first | (simp [plainName, overriddenIn]; done) | decide +kernel
theorem ef_ok6 (m : MethodId) (a1 : Addr) (p3 : Int32) (p4 : Int32) (p5 : Int32) (p6 : Int32) : entryFrame m #[(.ref a1), (.int (6 : Int32)), (.int p3), (.int p4), (.int p5), (.int p6)] 9 = mkF m 0 #[.val (.ref a1), .val (.int (6 : Int32)), .val (.int p3), .val (.int p4), .val (.int p5), .val (.int p6), .unset, .unset, .unset] [] := by first | (simp [entryFrame, mkF, argsToLocals, Value.category]; done) | rfl
def Qok6 (Z : State) (a1 : Addr) (p3 : Int32) (p4 : Int32) (p5 : Int32) (p6 : Int32) (k1 : ClassId) (c0 : Int32) (c1 : Int32) (c2 : Int32) (c3 : Int32) (c4 : Int32) (c5 : Int32) (c6 : Int32) (c7 : Int32) (c8 : Int32) (h0 : Heap) (n0 : Nat) (v : Option Value) (h : Heap) (L : List Loc) : Prop := v = some (.int (fok6 p3 p4 p5 p6 c0 c1 c2 c3 c4 c5 c6 c7 c8)) ∧ Fr n0 L ∧ h = h0
set_option maxRecDepth 65536 in
set_option maxHeartbeats 40000000 in
theorem rmok6 (l : Launch) (Z : State) (a0 : Array Value) (hw : ∀ d ∈ tables_1, d.before a0 Z = true) (ws : List Jvm.Cond) (a1 : Addr) (p3 : Int32) (p4 : Int32) (p5 : Int32) (p6 : Int32) (k1 : ClassId) (c0 : Int32) (c1 : Int32) (c2 : Int32) (c3 : Int32) (c4 : Int32) (c5 : Int32) (c6 : Int32) (c7 : Int32) (c8 : Int32) (h0 : Heap) (n0 : Nat) (Z0 : n0 ≤ h0.size) (A_a1 : Arv Z h0 a1 k1 .byte (9 : Int32) [(.int c0), (.int c1), (.int c2), (.int c3), (.int c4), (.int c5), (.int c6), (.int c7), (.int c8)] (.int (0 : Int32))) :
    MetFree l (⟨"com/example/stratum/stratum/index/PostingsPutVarIntPinLaw", "ok", "([BIIIIB)Z"⟩ : MethodName) (head1 (Jvm.Cond.code (⟨"com/example/stratum/stratum/index/PostingsPutVarIntPinLaw", "ok", "([BIIIIB)Z"⟩ : MethodName) method_4_code 9 (some .boolean) :: ws) ({ frames := 0, cells := 0, slots := 0, locals := 0 } : Room)) (fun a U => a = #[(.ref a1), (.int (6 : Int32)), (.int p3), (.int p4), (.int p5), (.int p6)] ∧ Z.Warmed39 U.vm ∧ U.heap = h0) (fun _ _ _ _ _ => True) (fun _ U o U' => ∃ v L, o = .returned v ∧ Qok6 Z a1 p3 p4 p5 p6 k1 c0 c1 c2 c3 c4 c5 c6 c7 c8 h0 n0 v U'.heap L ∧ FrameEnd U o U' L ({ frames := 0, cells := 0, slots := 0, locals := 0 } : Room).cells ({ frames := 0, cells := 0, slots := 0, locals := 0 } : Room).slots) := by
  refine MetFree.of_bodySF (plainFor_of_name pn_ok6) hisR ?_
  intro p e s m args below meth c s₁ Bd hml0 hP hK
  obtain ⟨rfl, hZ, hh⟩ := hP
  have hx := Bd.exec
  have hby := Bd.bytes
  have hml : c.maxLocals = 9 := hml0
  have hown : s.vm.findClass "com/example/stratum/stratum/index/PostingsPutVarIntPinLaw" = some m.cls := findClass_of_methodNamed Bd.named
  have hnm := (name_of_methodNamed Bd.named Bd.method).1
  have X0 : Stand p l e ({ frames := 0, cells := 0, slots := 0, locals := 0 } : Room) s m #[(.ref a1), (.int (6 : Int32)), (.int p3), (.int p4), (.int p5), (.int p6)] below meth c s₁ [] 0 0 := Stand.of_body Bd
  have e0 : s₁.heap = h0 := by rw [← hh, Bd.state]; rfl
  have N0 := Fr.nil n0
  have pre0 : ∀ t, Steps p.tables e below (s₁.setTop (mkF m 0 #[.val (.ref a1), .val (.int (6 : Int32)), .val (.int p3), .val (.int p4), .val (.int p5), .val (.int p6), .unset, .unset, .unset] [])) t → Steps p.tables e below (s₁.setTop (entryFrame m #[(.ref a1), (.int (6 : Int32)), (.int p3), (.int p4), (.int p5), (.int p6)] 9)) t := fun t k => castTop (ef_ok6 m a1 p3 p4 p5 p6) k
  refine own_step (Q := fun o U' => ∃ v L, o = .returned v ∧ Qok6 Z a1 p3 p4 p5 p6 k1 c0 c1 c2 c3 c4 c5 c6 c7 c8 h0 n0 v U'.heap L ∧ FrameEnd s o U' L ({ frames := 0, cells := 0, slots := 0, locals := 0 } : Room).cells ({ frames := 0, cells := 0, slots := 0, locals := 0 } : Room).slots) pre0 ?_
  refine own_step (B := s₁.setTop (mkF m 2 #[.val (.ref a1), .val (.int (6 : Int32)), .val (.int p3), .val (.int p4), .val (.int p5), .val (.int p6), .unset, .unset, .unset] [(.int p3), (.int (6 : Int32))])) (fun t k => ?_) ?_
  · show Steps p.tables e below (s₁.setTop (mkF m 0 #[.val (.ref a1), .val (.int (6 : Int32)), .val (.int p3), .val (.int p4), .val (.int p5), .val (.int p6), .unset, .unset, .unset] [])) _
    refine XS.iloadN X0.here hx rfl (hb hby d3_0) rfl ?_
    show Steps p.tables e below (s₁.setTop (mkF m 1 #[.val (.ref a1), .val (.int (6 : Int32)), .val (.int p3), .val (.int p4), .val (.int p5), .val (.int p6), .unset, .unset, .unset] [(.int (6 : Int32))])) _
    refine XS.iloadN X0.here hx rfl (hb hby d3_1) rfl ?_
    exact k
  by_cases h1 : (6 : Int32) < p3
  · obtain ⟨cl2, Ar2, -, S2, M2, H2, -⟩ := id A_a1
    have hin2 := inb_of (j := (6 : Int32)) S2 (by decide)
    have hat2 := H2.at hin2 (v := (.int c6)) (rfl)
    have st4 : ∀ t, Steps p.tables e below (s₁.setTop (mkF m 25 #[.val (.ref a1), .val (.int (6 : Int32)), .val (.int p3), .val (.int p4), .val (.int p5), .val (.int p6), .unset, .unset, .unset] [(.int (if c6 = p6 then (1 : Int32) else (0 : Int32)))])) t → Steps p.tables e below (s₁.setTop (mkF m 17 #[.val (.ref a1), .val (.int (6 : Int32)), .val (.int p3), .val (.int p4), .val (.int p5), .val (.int p6), .unset, .unset, .unset] [(.int p6), (.int c6)])) t := by
      intro t k
      by_cases h3 : c6 = p6
      · rw [show (if c6 = p6 then (1 : Int32) else (0 : Int32)) = (1 : Int32) from if_pos h3] at k
        show Steps p.tables e below (s₁.setTop (mkF m 17 #[.val (.ref a1), .val (.int (6 : Int32)), .val (.int p3), .val (.int p4), .val (.int p5), .val (.int p6), .unset, .unset, .unset] [(.int p6), (.int c6)])) _
        refine XS.icmpNo X0.here hx rfl (hb hby d3_17) rfl (teq h3).2 ?_
        show Steps p.tables e below (s₁.setTop (mkF m 20 #[.val (.ref a1), .val (.int (6 : Int32)), .val (.int p3), .val (.int p4), .val (.int p5), .val (.int p6), .unset, .unset, .unset] [])) _
        refine XS.iconst X0.here hx rfl (hb hby d3_20) ?_
        show Steps p.tables e below (s₁.setTop (mkF m 21 #[.val (.ref a1), .val (.int (6 : Int32)), .val (.int p3), .val (.int p4), .val (.int p5), .val (.int p6), .unset, .unset, .unset] [(.int (1 : Int32))])) _
        refine XS.goto X0.here hx rfl (pc0 := 21) (pc' := 25) rfl (hb hby d3_21) (by decide) (by decide) ?_
        exact k
      · rw [show (if c6 = p6 then (1 : Int32) else (0 : Int32)) = (0 : Int32) from if_neg h3] at k
        show Steps p.tables e below (s₁.setTop (mkF m 17 #[.val (.ref a1), .val (.int (6 : Int32)), .val (.int p3), .val (.int p4), .val (.int p5), .val (.int p6), .unset, .unset, .unset] [(.int p6), (.int c6)])) _
        refine XS.icmpYes X0.here hx rfl (pc0 := 17) (pc' := 24) rfl (hb hby d3_17) rfl (feq h3).2 (by decide) (by decide) ?_
        show Steps p.tables e below (s₁.setTop (mkF m 24 #[.val (.ref a1), .val (.int (6 : Int32)), .val (.int p3), .val (.int p4), .val (.int p5), .val (.int p6), .unset, .unset, .unset] [])) _
        refine XS.iconst X0.here hx rfl (hb hby d3_24) ?_
        exact k
    obtain ⟨fs, hr, hrun, hended, hW, hsame⟩ := X0.leave (v := some (.int ((if c6 = p6 then (1 : Int32) else (0 : Int32)) &&& 1))) (fun h => by rw [Bd.returns] at h; cases h)
    refine ⟨_, _, ?_, hrun, hended, _, _, rfl, ?_, ⟨_, rfl⟩, hW, hsame.mono (by decide) (by decide)⟩
    · show Steps p.tables e below (s₁.setTop (mkF m 2 #[.val (.ref a1), .val (.int (6 : Int32)), .val (.int p3), .val (.int p4), .val (.int p5), .val (.int p6), .unset, .unset, .unset] [(.int p3), (.int (6 : Int32))])) _
      refine XS.icmpYes X0.here hx rfl (pc0 := 2) (pc' := 12) rfl (hb hby d3_2) rfl (tlt h1).1 (by decide) (by decide) ?_
      show Steps p.tables e below (s₁.setTop (mkF m 12 #[.val (.ref a1), .val (.int (6 : Int32)), .val (.int p3), .val (.int p4), .val (.int p5), .val (.int p6), .unset, .unset, .unset] [])) _
      refine XS.aloadN X0.here hx rfl (hb hby d3_12) rfl rfl ?_
      show Steps p.tables e below (s₁.setTop (mkF m 13 #[.val (.ref a1), .val (.int (6 : Int32)), .val (.int p3), .val (.int p4), .val (.int p5), .val (.int p6), .unset, .unset, .unset] [(.ref a1)])) _
      refine XS.iloadN X0.here hx rfl (hb hby d3_13) rfl ?_
      show Steps p.tables e below (s₁.setTop (mkF m 14 #[.val (.ref a1), .val (.int (6 : Int32)), .val (.int p3), .val (.int p4), .val (.int p5), .val (.int p6), .unset, .unset, .unset] [(.int (6 : Int32)), (.ref a1)])) _
      refine X0.baloadBytes hx (j := (6 : Int32)) (v := (.int c6)) (by rw [e0]; exact Ar2.1) (State.isArrayOf_alike hZ.alike Ar2.2.1) Ar2.2.2 hin2 hat2 (g := (mkF m 14 #[.val (.ref a1), .val (.int (6 : Int32)), .val (.int p3), .val (.int p4), .val (.int p5), .val (.int p6), .unset, .unset, .unset] [(.int (6 : Int32)), (.ref a1)])) rfl rfl (hb hby d3_14) _ ?_
      show Steps p.tables e below (s₁.setTop (mkF m 15 #[.val (.ref a1), .val (.int (6 : Int32)), .val (.int p3), .val (.int p4), .val (.int p5), .val (.int p6), .unset, .unset, .unset] [(.int c6)])) _
      refine XS.iload X0.here hx rfl (hb hby d3_15) rfl ?_
      show Steps p.tables e below (s₁.setTop (mkF m 17 #[.val (.ref a1), .val (.int (6 : Int32)), .val (.int p3), .val (.int p4), .val (.int p5), .val (.int p6), .unset, .unset, .unset] [(.int p6), (.int c6)])) _
      refine st4 _ ?_
      show Steps p.tables e below (s₁.setTop (mkF m 25 #[.val (.ref a1), .val (.int (6 : Int32)), .val (.int p3), .val (.int p4), .val (.int p5), .val (.int p6), .unset, .unset, .unset] [(.int (if c6 = p6 then (1 : Int32) else (0 : Int32)))])) _
      exact retN X0 hx (t := .boolean) Bd.returns (by simp) (hb hby d3_25) hr
    · show Qok6 Z a1 p3 p4 p5 p6 k1 c0 c1 c2 c3 c4 c5 c6 c7 c8 h0 n0 _ s₁.heap _
      rw [e0]
      have hf : fok6 p3 p4 p5 p6 c0 c1 c2 c3 c4 c5 c6 c7 c8 = ((if c6 = p6 then (1 : Int32) else (0 : Int32)) &&& 1) := by simp only [fok6, if_pos h1]
      exact ⟨by rw [hf], N0, rfl⟩
  · refine own_step (B := s₁.setTop (mkF m 9 #[.val (.ref a1), .val (.int (6 : Int32)), .val (.int p3), .val (.int p4), .val (.int p5), .val (.int p6), .unset, .unset, .unset] [(.int (p3 + p4)), (.int (6 : Int32))])) (fun t k => ?_) ?_
    · show Steps p.tables e below (s₁.setTop (mkF m 2 #[.val (.ref a1), .val (.int (6 : Int32)), .val (.int p3), .val (.int p4), .val (.int p5), .val (.int p6), .unset, .unset, .unset] [(.int p3), (.int (6 : Int32))])) _
      refine XS.icmpNo X0.here hx rfl (hb hby d3_2) rfl (flt h1).1 ?_
      show Steps p.tables e below (s₁.setTop (mkF m 5 #[.val (.ref a1), .val (.int (6 : Int32)), .val (.int p3), .val (.int p4), .val (.int p5), .val (.int p6), .unset, .unset, .unset] [])) _
      refine XS.iloadN X0.here hx rfl (hb hby d3_5) rfl ?_
      show Steps p.tables e below (s₁.setTop (mkF m 6 #[.val (.ref a1), .val (.int (6 : Int32)), .val (.int p3), .val (.int p4), .val (.int p5), .val (.int p6), .unset, .unset, .unset] [(.int (6 : Int32))])) _
      refine XS.iloadN X0.here hx rfl (hb hby d3_6) rfl ?_
      show Steps p.tables e below (s₁.setTop (mkF m 7 #[.val (.ref a1), .val (.int (6 : Int32)), .val (.int p3), .val (.int p4), .val (.int p5), .val (.int p6), .unset, .unset, .unset] [(.int p3), (.int (6 : Int32))])) _
      refine XS.iloadN X0.here hx rfl (hb hby d3_7) rfl ?_
      show Steps p.tables e below (s₁.setTop (mkF m 8 #[.val (.ref a1), .val (.int (6 : Int32)), .val (.int p3), .val (.int p4), .val (.int p5), .val (.int p6), .unset, .unset, .unset] [(.int p4), (.int p3), (.int (6 : Int32))])) _
      refine XS.iadd X0.here hx rfl (hb hby d3_8) rfl ?_
      exact k
    by_cases h5 : (6 : Int32) < (p3 + p4)
    · have st7 : ∀ t, Steps p.tables e below (s₁.setTop (mkF m 63 #[.val (.ref a1), .val (.int (6 : Int32)), .val (.int p3), .val (.int p4), .val (.int p5), .val (.int p6), .val (.int ((6 : Int32) - p3)), .val (.int ((XT.ushr p5 ((7 : Int32) * ((6 : Int32) - p3))) &&& (127 : Int32))), .unset] [(.int (fok6_0 p3 p4 p5 p6 c0 c1 c2 c3 c4 c5 c6 c7 c8))])) t → Steps p.tables e below (s₁.setTop (mkF m 49 #[.val (.ref a1), .val (.int (6 : Int32)), .val (.int p3), .val (.int p4), .val (.int p5), .val (.int p6), .val (.int ((6 : Int32) - p3)), .val (.int ((XT.ushr p5 ((7 : Int32) * ((6 : Int32) - p3))) &&& (127 : Int32))), .unset] [(.int (p4 - (1 : Int32))), (.int ((6 : Int32) - p3))])) t := by
        intro t k
        by_cases h6 : ((6 : Int32) - p3) < (p4 - (1 : Int32))
        · rw [show (fok6_0 p3 p4 p5 p6 c0 c1 c2 c3 c4 c5 c6 c7 c8) = (((XT.ushr p5 ((7 : Int32) * ((6 : Int32) - p3))) &&& (127 : Int32)) ||| (128 : Int32)) from if_pos h6] at k
          show Steps p.tables e below (s₁.setTop (mkF m 49 #[.val (.ref a1), .val (.int (6 : Int32)), .val (.int p3), .val (.int p4), .val (.int p5), .val (.int p6), .val (.int ((6 : Int32) - p3)), .val (.int ((XT.ushr p5 ((7 : Int32) * ((6 : Int32) - p3))) &&& (127 : Int32))), .unset] [(.int (p4 - (1 : Int32))), (.int ((6 : Int32) - p3))])) _
          refine XS.icmpNo X0.here hx rfl (hb hby d3_49) rfl (tlt h6).2.1 ?_
          show Steps p.tables e below (s₁.setTop (mkF m 52 #[.val (.ref a1), .val (.int (6 : Int32)), .val (.int p3), .val (.int p4), .val (.int p5), .val (.int p6), .val (.int ((6 : Int32) - p3)), .val (.int ((XT.ushr p5 ((7 : Int32) * ((6 : Int32) - p3))) &&& (127 : Int32))), .unset] [])) _
          refine XS.iload X0.here hx rfl (hb hby d3_52) rfl ?_
          show Steps p.tables e below (s₁.setTop (mkF m 54 #[.val (.ref a1), .val (.int (6 : Int32)), .val (.int p3), .val (.int p4), .val (.int p5), .val (.int p6), .val (.int ((6 : Int32) - p3)), .val (.int ((XT.ushr p5 ((7 : Int32) * ((6 : Int32) - p3))) &&& (127 : Int32))), .unset] [(.int ((XT.ushr p5 ((7 : Int32) * ((6 : Int32) - p3))) &&& (127 : Int32)))])) _
          refine XS.sipush X0.here hx rfl (hb hby d3_54) ?_
          show Steps p.tables e below (s₁.setTop (mkF m 57 #[.val (.ref a1), .val (.int (6 : Int32)), .val (.int p3), .val (.int p4), .val (.int p5), .val (.int p6), .val (.int ((6 : Int32) - p3)), .val (.int ((XT.ushr p5 ((7 : Int32) * ((6 : Int32) - p3))) &&& (127 : Int32))), .unset] [(.int (128 : Int32)), (.int ((XT.ushr p5 ((7 : Int32) * ((6 : Int32) - p3))) &&& (127 : Int32)))])) _
          refine XT.ior X0.here hx rfl (hb hby d3_57) rfl ?_
          show Steps p.tables e below (s₁.setTop (mkF m 58 #[.val (.ref a1), .val (.int (6 : Int32)), .val (.int p3), .val (.int p4), .val (.int p5), .val (.int p6), .val (.int ((6 : Int32) - p3)), .val (.int ((XT.ushr p5 ((7 : Int32) * ((6 : Int32) - p3))) &&& (127 : Int32))), .unset] [(.int (((XT.ushr p5 ((7 : Int32) * ((6 : Int32) - p3))) &&& (127 : Int32)) ||| (128 : Int32)))])) _
          refine XS.goto X0.here hx rfl (pc0 := 58) (pc' := 63) rfl (hb hby d3_58) (by decide) (by decide) ?_
          exact k
        · rw [show (fok6_0 p3 p4 p5 p6 c0 c1 c2 c3 c4 c5 c6 c7 c8) = ((XT.ushr p5 ((7 : Int32) * ((6 : Int32) - p3))) &&& (127 : Int32)) from if_neg h6] at k
          show Steps p.tables e below (s₁.setTop (mkF m 49 #[.val (.ref a1), .val (.int (6 : Int32)), .val (.int p3), .val (.int p4), .val (.int p5), .val (.int p6), .val (.int ((6 : Int32) - p3)), .val (.int ((XT.ushr p5 ((7 : Int32) * ((6 : Int32) - p3))) &&& (127 : Int32))), .unset] [(.int (p4 - (1 : Int32))), (.int ((6 : Int32) - p3))])) _
          refine XS.icmpYes X0.here hx rfl (pc0 := 49) (pc' := 61) rfl (hb hby d3_49) rfl (flt h6).2.1 (by decide) (by decide) ?_
          show Steps p.tables e below (s₁.setTop (mkF m 61 #[.val (.ref a1), .val (.int (6 : Int32)), .val (.int p3), .val (.int p4), .val (.int p5), .val (.int p6), .val (.int ((6 : Int32) - p3)), .val (.int ((XT.ushr p5 ((7 : Int32) * ((6 : Int32) - p3))) &&& (127 : Int32))), .unset] [])) _
          refine XS.iload X0.here hx rfl (hb hby d3_61) rfl ?_
          exact k
      obtain ⟨cl8, Ar8, -, S8, M8, H8, -⟩ := id A_a1
      have hin8 := inb_of (j := (6 : Int32)) S8 (by decide)
      have hat8 := H8.at hin8 (v := (.int c6)) (rfl)
      have st10 : ∀ t, Steps p.tables e below (s₁.setTop (mkF m 79 #[.val (.ref a1), .val (.int (6 : Int32)), .val (.int p3), .val (.int p4), .val (.int p5), .val (.int p6), .val (.int ((6 : Int32) - p3)), .val (.int ((XT.ushr p5 ((7 : Int32) * ((6 : Int32) - p3))) &&& (127 : Int32))), .val (.int (fok6_0 p3 p4 p5 p6 c0 c1 c2 c3 c4 c5 c6 c7 c8))] [(.int (fok6_1 p3 p4 p5 p6 c0 c1 c2 c3 c4 c5 c6 c7 c8))])) t → Steps p.tables e below (s₁.setTop (mkF m 71 #[.val (.ref a1), .val (.int (6 : Int32)), .val (.int p3), .val (.int p4), .val (.int p5), .val (.int p6), .val (.int ((6 : Int32) - p3)), .val (.int ((XT.ushr p5 ((7 : Int32) * ((6 : Int32) - p3))) &&& (127 : Int32))), .val (.int (fok6_0 p3 p4 p5 p6 c0 c1 c2 c3 c4 c5 c6 c7 c8))] [(.int (fok6_0 p3 p4 p5 p6 c0 c1 c2 c3 c4 c5 c6 c7 c8).toInt8.toInt32), (.int c6)])) t := by
        intro t k
        by_cases h9 : c6 = (fok6_0 p3 p4 p5 p6 c0 c1 c2 c3 c4 c5 c6 c7 c8).toInt8.toInt32
        · rw [show (fok6_1 p3 p4 p5 p6 c0 c1 c2 c3 c4 c5 c6 c7 c8) = (1 : Int32) from if_pos h9] at k
          show Steps p.tables e below (s₁.setTop (mkF m 71 #[.val (.ref a1), .val (.int (6 : Int32)), .val (.int p3), .val (.int p4), .val (.int p5), .val (.int p6), .val (.int ((6 : Int32) - p3)), .val (.int ((XT.ushr p5 ((7 : Int32) * ((6 : Int32) - p3))) &&& (127 : Int32))), .val (.int (fok6_0 p3 p4 p5 p6 c0 c1 c2 c3 c4 c5 c6 c7 c8))] [(.int (fok6_0 p3 p4 p5 p6 c0 c1 c2 c3 c4 c5 c6 c7 c8).toInt8.toInt32), (.int c6)])) _
          refine XS.icmpNo X0.here hx rfl (hb hby d3_71) rfl (teq h9).2 ?_
          show Steps p.tables e below (s₁.setTop (mkF m 74 #[.val (.ref a1), .val (.int (6 : Int32)), .val (.int p3), .val (.int p4), .val (.int p5), .val (.int p6), .val (.int ((6 : Int32) - p3)), .val (.int ((XT.ushr p5 ((7 : Int32) * ((6 : Int32) - p3))) &&& (127 : Int32))), .val (.int (fok6_0 p3 p4 p5 p6 c0 c1 c2 c3 c4 c5 c6 c7 c8))] [])) _
          refine XS.iconst X0.here hx rfl (hb hby d3_74) ?_
          show Steps p.tables e below (s₁.setTop (mkF m 75 #[.val (.ref a1), .val (.int (6 : Int32)), .val (.int p3), .val (.int p4), .val (.int p5), .val (.int p6), .val (.int ((6 : Int32) - p3)), .val (.int ((XT.ushr p5 ((7 : Int32) * ((6 : Int32) - p3))) &&& (127 : Int32))), .val (.int (fok6_0 p3 p4 p5 p6 c0 c1 c2 c3 c4 c5 c6 c7 c8))] [(.int (1 : Int32))])) _
          refine XS.goto X0.here hx rfl (pc0 := 75) (pc' := 79) rfl (hb hby d3_75) (by decide) (by decide) ?_
          exact k
        · rw [show (fok6_1 p3 p4 p5 p6 c0 c1 c2 c3 c4 c5 c6 c7 c8) = (0 : Int32) from if_neg h9] at k
          show Steps p.tables e below (s₁.setTop (mkF m 71 #[.val (.ref a1), .val (.int (6 : Int32)), .val (.int p3), .val (.int p4), .val (.int p5), .val (.int p6), .val (.int ((6 : Int32) - p3)), .val (.int ((XT.ushr p5 ((7 : Int32) * ((6 : Int32) - p3))) &&& (127 : Int32))), .val (.int (fok6_0 p3 p4 p5 p6 c0 c1 c2 c3 c4 c5 c6 c7 c8))] [(.int (fok6_0 p3 p4 p5 p6 c0 c1 c2 c3 c4 c5 c6 c7 c8).toInt8.toInt32), (.int c6)])) _
          refine XS.icmpYes X0.here hx rfl (pc0 := 71) (pc' := 78) rfl (hb hby d3_71) rfl (feq h9).2 (by decide) (by decide) ?_
          show Steps p.tables e below (s₁.setTop (mkF m 78 #[.val (.ref a1), .val (.int (6 : Int32)), .val (.int p3), .val (.int p4), .val (.int p5), .val (.int p6), .val (.int ((6 : Int32) - p3)), .val (.int ((XT.ushr p5 ((7 : Int32) * ((6 : Int32) - p3))) &&& (127 : Int32))), .val (.int (fok6_0 p3 p4 p5 p6 c0 c1 c2 c3 c4 c5 c6 c7 c8))] [])) _
          refine XS.iconst X0.here hx rfl (hb hby d3_78) ?_
          exact k
      obtain ⟨fs, hr, hrun, hended, hW, hsame⟩ := X0.leave (v := some (.int ((fok6_1 p3 p4 p5 p6 c0 c1 c2 c3 c4 c5 c6 c7 c8) &&& 1))) (fun h => by rw [Bd.returns] at h; cases h)
      refine ⟨_, _, ?_, hrun, hended, _, _, rfl, ?_, ⟨_, rfl⟩, hW, hsame.mono (by decide) (by decide)⟩
      · show Steps p.tables e below (s₁.setTop (mkF m 9 #[.val (.ref a1), .val (.int (6 : Int32)), .val (.int p3), .val (.int p4), .val (.int p5), .val (.int p6), .unset, .unset, .unset] [(.int (p3 + p4)), (.int (6 : Int32))])) _
        refine XS.icmpYes X0.here hx rfl (pc0 := 9) (pc' := 26) rfl (hb hby d3_9) rfl (tlt h5).1 (by decide) (by decide) ?_
        show Steps p.tables e below (s₁.setTop (mkF m 26 #[.val (.ref a1), .val (.int (6 : Int32)), .val (.int p3), .val (.int p4), .val (.int p5), .val (.int p6), .unset, .unset, .unset] [])) _
        refine XS.iloadN X0.here hx rfl (hb hby d3_26) rfl ?_
        show Steps p.tables e below (s₁.setTop (mkF m 27 #[.val (.ref a1), .val (.int (6 : Int32)), .val (.int p3), .val (.int p4), .val (.int p5), .val (.int p6), .unset, .unset, .unset] [(.int (6 : Int32))])) _
        refine XS.iloadN X0.here hx rfl (hb hby d3_27) rfl ?_
        show Steps p.tables e below (s₁.setTop (mkF m 28 #[.val (.ref a1), .val (.int (6 : Int32)), .val (.int p3), .val (.int p4), .val (.int p5), .val (.int p6), .unset, .unset, .unset] [(.int p3), (.int (6 : Int32))])) _
        refine XS.isub X0.here hx rfl (hb hby d3_28) rfl ?_
        show Steps p.tables e below (s₁.setTop (mkF m 29 #[.val (.ref a1), .val (.int (6 : Int32)), .val (.int p3), .val (.int p4), .val (.int p5), .val (.int p6), .unset, .unset, .unset] [(.int ((6 : Int32) - p3))])) _
        refine XS.istore X0.here hx rfl (hb hby d3_29) rfl (l' := #[.val (.ref a1), .val (.int (6 : Int32)), .val (.int p3), .val (.int p4), .val (.int p5), .val (.int p6), .val (.int ((6 : Int32) - p3)), .unset, .unset]) rfl ?_
        show Steps p.tables e below (s₁.setTop (mkF m 31 #[.val (.ref a1), .val (.int (6 : Int32)), .val (.int p3), .val (.int p4), .val (.int p5), .val (.int p6), .val (.int ((6 : Int32) - p3)), .unset, .unset] [])) _
        refine XS.iload X0.here hx rfl (hb hby d3_31) rfl ?_
        show Steps p.tables e below (s₁.setTop (mkF m 33 #[.val (.ref a1), .val (.int (6 : Int32)), .val (.int p3), .val (.int p4), .val (.int p5), .val (.int p6), .val (.int ((6 : Int32) - p3)), .unset, .unset] [(.int p5)])) _
        refine XS.bipush X0.here hx rfl (hb hby d3_33) ?_
        show Steps p.tables e below (s₁.setTop (mkF m 35 #[.val (.ref a1), .val (.int (6 : Int32)), .val (.int p3), .val (.int p4), .val (.int p5), .val (.int p6), .val (.int ((6 : Int32) - p3)), .unset, .unset] [(.int (7 : Int32)), (.int p5)])) _
        refine XS.iload X0.here hx rfl (hb hby d3_35) rfl ?_
        show Steps p.tables e below (s₁.setTop (mkF m 37 #[.val (.ref a1), .val (.int (6 : Int32)), .val (.int p3), .val (.int p4), .val (.int p5), .val (.int p6), .val (.int ((6 : Int32) - p3)), .unset, .unset] [(.int ((6 : Int32) - p3)), (.int (7 : Int32)), (.int p5)])) _
        refine XS.imul X0.here hx rfl (hb hby d3_37) rfl ?_
        show Steps p.tables e below (s₁.setTop (mkF m 38 #[.val (.ref a1), .val (.int (6 : Int32)), .val (.int p3), .val (.int p4), .val (.int p5), .val (.int p6), .val (.int ((6 : Int32) - p3)), .unset, .unset] [(.int ((7 : Int32) * ((6 : Int32) - p3))), (.int p5)])) _
        refine XT.iushr X0.here hx rfl (hb hby d3_38) rfl ?_
        show Steps p.tables e below (s₁.setTop (mkF m 39 #[.val (.ref a1), .val (.int (6 : Int32)), .val (.int p3), .val (.int p4), .val (.int p5), .val (.int p6), .val (.int ((6 : Int32) - p3)), .unset, .unset] [(.int (XT.ushr p5 ((7 : Int32) * ((6 : Int32) - p3))))])) _
        refine XS.bipush X0.here hx rfl (hb hby d3_39) ?_
        show Steps p.tables e below (s₁.setTop (mkF m 41 #[.val (.ref a1), .val (.int (6 : Int32)), .val (.int p3), .val (.int p4), .val (.int p5), .val (.int p6), .val (.int ((6 : Int32) - p3)), .unset, .unset] [(.int (127 : Int32)), (.int (XT.ushr p5 ((7 : Int32) * ((6 : Int32) - p3))))])) _
        refine XS.iand X0.here hx rfl (hb hby d3_41) rfl ?_
        show Steps p.tables e below (s₁.setTop (mkF m 42 #[.val (.ref a1), .val (.int (6 : Int32)), .val (.int p3), .val (.int p4), .val (.int p5), .val (.int p6), .val (.int ((6 : Int32) - p3)), .unset, .unset] [(.int ((XT.ushr p5 ((7 : Int32) * ((6 : Int32) - p3))) &&& (127 : Int32)))])) _
        refine XS.istore X0.here hx rfl (hb hby d3_42) rfl (l' := #[.val (.ref a1), .val (.int (6 : Int32)), .val (.int p3), .val (.int p4), .val (.int p5), .val (.int p6), .val (.int ((6 : Int32) - p3)), .val (.int ((XT.ushr p5 ((7 : Int32) * ((6 : Int32) - p3))) &&& (127 : Int32))), .unset]) rfl ?_
        show Steps p.tables e below (s₁.setTop (mkF m 44 #[.val (.ref a1), .val (.int (6 : Int32)), .val (.int p3), .val (.int p4), .val (.int p5), .val (.int p6), .val (.int ((6 : Int32) - p3)), .val (.int ((XT.ushr p5 ((7 : Int32) * ((6 : Int32) - p3))) &&& (127 : Int32))), .unset] [])) _
        refine XS.iload X0.here hx rfl (hb hby d3_44) rfl ?_
        show Steps p.tables e below (s₁.setTop (mkF m 46 #[.val (.ref a1), .val (.int (6 : Int32)), .val (.int p3), .val (.int p4), .val (.int p5), .val (.int p6), .val (.int ((6 : Int32) - p3)), .val (.int ((XT.ushr p5 ((7 : Int32) * ((6 : Int32) - p3))) &&& (127 : Int32))), .unset] [(.int ((6 : Int32) - p3))])) _
        refine XS.iloadN X0.here hx rfl (hb hby d3_46) rfl ?_
        show Steps p.tables e below (s₁.setTop (mkF m 47 #[.val (.ref a1), .val (.int (6 : Int32)), .val (.int p3), .val (.int p4), .val (.int p5), .val (.int p6), .val (.int ((6 : Int32) - p3)), .val (.int ((XT.ushr p5 ((7 : Int32) * ((6 : Int32) - p3))) &&& (127 : Int32))), .unset] [(.int p4), (.int ((6 : Int32) - p3))])) _
        refine XS.iconst X0.here hx rfl (hb hby d3_47) ?_
        show Steps p.tables e below (s₁.setTop (mkF m 48 #[.val (.ref a1), .val (.int (6 : Int32)), .val (.int p3), .val (.int p4), .val (.int p5), .val (.int p6), .val (.int ((6 : Int32) - p3)), .val (.int ((XT.ushr p5 ((7 : Int32) * ((6 : Int32) - p3))) &&& (127 : Int32))), .unset] [(.int (1 : Int32)), (.int p4), (.int ((6 : Int32) - p3))])) _
        refine XS.isub X0.here hx rfl (hb hby d3_48) rfl ?_
        show Steps p.tables e below (s₁.setTop (mkF m 49 #[.val (.ref a1), .val (.int (6 : Int32)), .val (.int p3), .val (.int p4), .val (.int p5), .val (.int p6), .val (.int ((6 : Int32) - p3)), .val (.int ((XT.ushr p5 ((7 : Int32) * ((6 : Int32) - p3))) &&& (127 : Int32))), .unset] [(.int (p4 - (1 : Int32))), (.int ((6 : Int32) - p3))])) _
        refine st7 _ ?_
        show Steps p.tables e below (s₁.setTop (mkF m 63 #[.val (.ref a1), .val (.int (6 : Int32)), .val (.int p3), .val (.int p4), .val (.int p5), .val (.int p6), .val (.int ((6 : Int32) - p3)), .val (.int ((XT.ushr p5 ((7 : Int32) * ((6 : Int32) - p3))) &&& (127 : Int32))), .unset] [(.int (fok6_0 p3 p4 p5 p6 c0 c1 c2 c3 c4 c5 c6 c7 c8))])) _
        refine XS.istore X0.here hx rfl (hb hby d3_63) rfl (l' := #[.val (.ref a1), .val (.int (6 : Int32)), .val (.int p3), .val (.int p4), .val (.int p5), .val (.int p6), .val (.int ((6 : Int32) - p3)), .val (.int ((XT.ushr p5 ((7 : Int32) * ((6 : Int32) - p3))) &&& (127 : Int32))), .val (.int (fok6_0 p3 p4 p5 p6 c0 c1 c2 c3 c4 c5 c6 c7 c8))]) rfl ?_
        show Steps p.tables e below (s₁.setTop (mkF m 65 #[.val (.ref a1), .val (.int (6 : Int32)), .val (.int p3), .val (.int p4), .val (.int p5), .val (.int p6), .val (.int ((6 : Int32) - p3)), .val (.int ((XT.ushr p5 ((7 : Int32) * ((6 : Int32) - p3))) &&& (127 : Int32))), .val (.int (fok6_0 p3 p4 p5 p6 c0 c1 c2 c3 c4 c5 c6 c7 c8))] [])) _
        refine XS.aloadN X0.here hx rfl (hb hby d3_65) rfl rfl ?_
        show Steps p.tables e below (s₁.setTop (mkF m 66 #[.val (.ref a1), .val (.int (6 : Int32)), .val (.int p3), .val (.int p4), .val (.int p5), .val (.int p6), .val (.int ((6 : Int32) - p3)), .val (.int ((XT.ushr p5 ((7 : Int32) * ((6 : Int32) - p3))) &&& (127 : Int32))), .val (.int (fok6_0 p3 p4 p5 p6 c0 c1 c2 c3 c4 c5 c6 c7 c8))] [(.ref a1)])) _
        refine XS.iloadN X0.here hx rfl (hb hby d3_66) rfl ?_
        show Steps p.tables e below (s₁.setTop (mkF m 67 #[.val (.ref a1), .val (.int (6 : Int32)), .val (.int p3), .val (.int p4), .val (.int p5), .val (.int p6), .val (.int ((6 : Int32) - p3)), .val (.int ((XT.ushr p5 ((7 : Int32) * ((6 : Int32) - p3))) &&& (127 : Int32))), .val (.int (fok6_0 p3 p4 p5 p6 c0 c1 c2 c3 c4 c5 c6 c7 c8))] [(.int (6 : Int32)), (.ref a1)])) _
        refine X0.baloadBytes hx (j := (6 : Int32)) (v := (.int c6)) (by rw [e0]; exact Ar8.1) (State.isArrayOf_alike hZ.alike Ar8.2.1) Ar8.2.2 hin8 hat8 (g := (mkF m 67 #[.val (.ref a1), .val (.int (6 : Int32)), .val (.int p3), .val (.int p4), .val (.int p5), .val (.int p6), .val (.int ((6 : Int32) - p3)), .val (.int ((XT.ushr p5 ((7 : Int32) * ((6 : Int32) - p3))) &&& (127 : Int32))), .val (.int (fok6_0 p3 p4 p5 p6 c0 c1 c2 c3 c4 c5 c6 c7 c8))] [(.int (6 : Int32)), (.ref a1)])) rfl rfl (hb hby d3_67) _ ?_
        show Steps p.tables e below (s₁.setTop (mkF m 68 #[.val (.ref a1), .val (.int (6 : Int32)), .val (.int p3), .val (.int p4), .val (.int p5), .val (.int p6), .val (.int ((6 : Int32) - p3)), .val (.int ((XT.ushr p5 ((7 : Int32) * ((6 : Int32) - p3))) &&& (127 : Int32))), .val (.int (fok6_0 p3 p4 p5 p6 c0 c1 c2 c3 c4 c5 c6 c7 c8))] [(.int c6)])) _
        refine XS.iload X0.here hx rfl (hb hby d3_68) rfl ?_
        show Steps p.tables e below (s₁.setTop (mkF m 70 #[.val (.ref a1), .val (.int (6 : Int32)), .val (.int p3), .val (.int p4), .val (.int p5), .val (.int p6), .val (.int ((6 : Int32) - p3)), .val (.int ((XT.ushr p5 ((7 : Int32) * ((6 : Int32) - p3))) &&& (127 : Int32))), .val (.int (fok6_0 p3 p4 p5 p6 c0 c1 c2 c3 c4 c5 c6 c7 c8))] [(.int (fok6_0 p3 p4 p5 p6 c0 c1 c2 c3 c4 c5 c6 c7 c8)), (.int c6)])) _
        refine XT.i2b X0.here hx rfl (hb hby d3_70) rfl ?_
        show Steps p.tables e below (s₁.setTop (mkF m 71 #[.val (.ref a1), .val (.int (6 : Int32)), .val (.int p3), .val (.int p4), .val (.int p5), .val (.int p6), .val (.int ((6 : Int32) - p3)), .val (.int ((XT.ushr p5 ((7 : Int32) * ((6 : Int32) - p3))) &&& (127 : Int32))), .val (.int (fok6_0 p3 p4 p5 p6 c0 c1 c2 c3 c4 c5 c6 c7 c8))] [(.int (fok6_0 p3 p4 p5 p6 c0 c1 c2 c3 c4 c5 c6 c7 c8).toInt8.toInt32), (.int c6)])) _
        refine st10 _ ?_
        show Steps p.tables e below (s₁.setTop (mkF m 79 #[.val (.ref a1), .val (.int (6 : Int32)), .val (.int p3), .val (.int p4), .val (.int p5), .val (.int p6), .val (.int ((6 : Int32) - p3)), .val (.int ((XT.ushr p5 ((7 : Int32) * ((6 : Int32) - p3))) &&& (127 : Int32))), .val (.int (fok6_0 p3 p4 p5 p6 c0 c1 c2 c3 c4 c5 c6 c7 c8))] [(.int (fok6_1 p3 p4 p5 p6 c0 c1 c2 c3 c4 c5 c6 c7 c8))])) _
        exact retN X0 hx (t := .boolean) Bd.returns (by simp) (hb hby d3_79) hr
      · show Qok6 Z a1 p3 p4 p5 p6 k1 c0 c1 c2 c3 c4 c5 c6 c7 c8 h0 n0 _ s₁.heap _
        rw [e0]
        have hf : fok6 p3 p4 p5 p6 c0 c1 c2 c3 c4 c5 c6 c7 c8 = ((fok6_1 p3 p4 p5 p6 c0 c1 c2 c3 c4 c5 c6 c7 c8) &&& 1) := by simp only [fok6, if_neg h1, if_pos h5]
        exact ⟨by rw [hf], N0, rfl⟩
    · obtain ⟨cl11, Ar11, -, S11, M11, H11, -⟩ := id A_a1
      have hin11 := inb_of (j := (6 : Int32)) S11 (by decide)
      have hat11 := H11.at hin11 (v := (.int c6)) (rfl)
      have st13 : ∀ t, Steps p.tables e below (s₁.setTop (mkF m 25 #[.val (.ref a1), .val (.int (6 : Int32)), .val (.int p3), .val (.int p4), .val (.int p5), .val (.int p6), .unset, .unset, .unset] [(.int (if c6 = p6 then (1 : Int32) else (0 : Int32)))])) t → Steps p.tables e below (s₁.setTop (mkF m 17 #[.val (.ref a1), .val (.int (6 : Int32)), .val (.int p3), .val (.int p4), .val (.int p5), .val (.int p6), .unset, .unset, .unset] [(.int p6), (.int c6)])) t := by
        intro t k
        by_cases h12 : c6 = p6
        · rw [show (if c6 = p6 then (1 : Int32) else (0 : Int32)) = (1 : Int32) from if_pos h12] at k
          show Steps p.tables e below (s₁.setTop (mkF m 17 #[.val (.ref a1), .val (.int (6 : Int32)), .val (.int p3), .val (.int p4), .val (.int p5), .val (.int p6), .unset, .unset, .unset] [(.int p6), (.int c6)])) _
          refine XS.icmpNo X0.here hx rfl (hb hby d3_17) rfl (teq h12).2 ?_
          show Steps p.tables e below (s₁.setTop (mkF m 20 #[.val (.ref a1), .val (.int (6 : Int32)), .val (.int p3), .val (.int p4), .val (.int p5), .val (.int p6), .unset, .unset, .unset] [])) _
          refine XS.iconst X0.here hx rfl (hb hby d3_20) ?_
          show Steps p.tables e below (s₁.setTop (mkF m 21 #[.val (.ref a1), .val (.int (6 : Int32)), .val (.int p3), .val (.int p4), .val (.int p5), .val (.int p6), .unset, .unset, .unset] [(.int (1 : Int32))])) _
          refine XS.goto X0.here hx rfl (pc0 := 21) (pc' := 25) rfl (hb hby d3_21) (by decide) (by decide) ?_
          exact k
        · rw [show (if c6 = p6 then (1 : Int32) else (0 : Int32)) = (0 : Int32) from if_neg h12] at k
          show Steps p.tables e below (s₁.setTop (mkF m 17 #[.val (.ref a1), .val (.int (6 : Int32)), .val (.int p3), .val (.int p4), .val (.int p5), .val (.int p6), .unset, .unset, .unset] [(.int p6), (.int c6)])) _
          refine XS.icmpYes X0.here hx rfl (pc0 := 17) (pc' := 24) rfl (hb hby d3_17) rfl (feq h12).2 (by decide) (by decide) ?_
          show Steps p.tables e below (s₁.setTop (mkF m 24 #[.val (.ref a1), .val (.int (6 : Int32)), .val (.int p3), .val (.int p4), .val (.int p5), .val (.int p6), .unset, .unset, .unset] [])) _
          refine XS.iconst X0.here hx rfl (hb hby d3_24) ?_
          exact k
      obtain ⟨fs, hr, hrun, hended, hW, hsame⟩ := X0.leave (v := some (.int ((if c6 = p6 then (1 : Int32) else (0 : Int32)) &&& 1))) (fun h => by rw [Bd.returns] at h; cases h)
      refine ⟨_, _, ?_, hrun, hended, _, _, rfl, ?_, ⟨_, rfl⟩, hW, hsame.mono (by decide) (by decide)⟩
      · show Steps p.tables e below (s₁.setTop (mkF m 9 #[.val (.ref a1), .val (.int (6 : Int32)), .val (.int p3), .val (.int p4), .val (.int p5), .val (.int p6), .unset, .unset, .unset] [(.int (p3 + p4)), (.int (6 : Int32))])) _
        refine XS.icmpNo X0.here hx rfl (hb hby d3_9) rfl (flt h5).1 ?_
        show Steps p.tables e below (s₁.setTop (mkF m 12 #[.val (.ref a1), .val (.int (6 : Int32)), .val (.int p3), .val (.int p4), .val (.int p5), .val (.int p6), .unset, .unset, .unset] [])) _
        refine XS.aloadN X0.here hx rfl (hb hby d3_12) rfl rfl ?_
        show Steps p.tables e below (s₁.setTop (mkF m 13 #[.val (.ref a1), .val (.int (6 : Int32)), .val (.int p3), .val (.int p4), .val (.int p5), .val (.int p6), .unset, .unset, .unset] [(.ref a1)])) _
        refine XS.iloadN X0.here hx rfl (hb hby d3_13) rfl ?_
        show Steps p.tables e below (s₁.setTop (mkF m 14 #[.val (.ref a1), .val (.int (6 : Int32)), .val (.int p3), .val (.int p4), .val (.int p5), .val (.int p6), .unset, .unset, .unset] [(.int (6 : Int32)), (.ref a1)])) _
        refine X0.baloadBytes hx (j := (6 : Int32)) (v := (.int c6)) (by rw [e0]; exact Ar11.1) (State.isArrayOf_alike hZ.alike Ar11.2.1) Ar11.2.2 hin11 hat11 (g := (mkF m 14 #[.val (.ref a1), .val (.int (6 : Int32)), .val (.int p3), .val (.int p4), .val (.int p5), .val (.int p6), .unset, .unset, .unset] [(.int (6 : Int32)), (.ref a1)])) rfl rfl (hb hby d3_14) _ ?_
        show Steps p.tables e below (s₁.setTop (mkF m 15 #[.val (.ref a1), .val (.int (6 : Int32)), .val (.int p3), .val (.int p4), .val (.int p5), .val (.int p6), .unset, .unset, .unset] [(.int c6)])) _
        refine XS.iload X0.here hx rfl (hb hby d3_15) rfl ?_
        show Steps p.tables e below (s₁.setTop (mkF m 17 #[.val (.ref a1), .val (.int (6 : Int32)), .val (.int p3), .val (.int p4), .val (.int p5), .val (.int p6), .unset, .unset, .unset] [(.int p6), (.int c6)])) _
        refine st13 _ ?_
        show Steps p.tables e below (s₁.setTop (mkF m 25 #[.val (.ref a1), .val (.int (6 : Int32)), .val (.int p3), .val (.int p4), .val (.int p5), .val (.int p6), .unset, .unset, .unset] [(.int (if c6 = p6 then (1 : Int32) else (0 : Int32)))])) _
        exact retN X0 hx (t := .boolean) Bd.returns (by simp) (hb hby d3_25) hr
      · show Qok6 Z a1 p3 p4 p5 p6 k1 c0 c1 c2 c3 c4 c5 c6 c7 c8 h0 n0 _ s₁.heap _
        rw [e0]
        have hf : fok6 p3 p4 p5 p6 c0 c1 c2 c3 c4 c5 c6 c7 c8 = ((if c6 = p6 then (1 : Int32) else (0 : Int32)) &&& 1) := by simp only [fok6, if_neg h1, if_neg h5]
        exact ⟨by rw [hf], N0, rfl⟩
theorem pn_ok7 : plainName "com/example/stratum/stratum/index/PostingsPutVarIntPinLaw" = true := by first | (simp [plainName, overriddenIn]; done) | decide +kernel
theorem ef_ok7 (m : MethodId) (a1 : Addr) (p3 : Int32) (p4 : Int32) (p5 : Int32) (p6 : Int32) : entryFrame m #[(.ref a1), (.int (7 : Int32)), (.int p3), (.int p4), (.int p5), (.int p6)] 9 = mkF m 0 #[.val (.ref a1), .val (.int (7 : Int32)), .val (.int p3), .val (.int p4), .val (.int p5), .val (.int p6), .unset, .unset, .unset] [] := by first | (simp [entryFrame, mkF, argsToLocals, Value.category]; done) | rfl
def Qok7 (Z : State) (a1 : Addr) (p3 : Int32) (p4 : Int32) (p5 : Int32) (p6 : Int32) (k1 : ClassId) (c0 : Int32) (c1 : Int32) (c2 : Int32) (c3 : Int32) (c4 : Int32) (c5 : Int32) (c6 : Int32) (c7 : Int32) (c8 : Int32) (h0 : Heap) (n0 : Nat) (v : Option Value) (h : Heap) (L : List Loc) : Prop := v = some (.int (fok7 p3 p4 p5 p6 c0 c1 c2 c3 c4 c5 c6 c7 c8)) ∧ Fr n0 L ∧ h = h0
set_option maxRecDepth 65536 in
set_option maxHeartbeats 40000000 in
theorem rmok7 (l : Launch) (Z : State) (a0 : Array Value) (hw : ∀ d ∈ tables_1, d.before a0 Z = true) (ws : List Jvm.Cond) (a1 : Addr) (p3 : Int32) (p4 : Int32) (p5 : Int32) (p6 : Int32) (k1 : ClassId) (c0 : Int32) (c1 : Int32) (c2 : Int32) (c3 : Int32) (c4 : Int32) (c5 : Int32) (c6 : Int32) (c7 : Int32) (c8 : Int32) (h0 : Heap) (n0 : Nat) (Z0 : n0 ≤ h0.size) (A_a1 : Arv Z h0 a1 k1 .byte (9 : Int32) [(.int c0), (.int c1), (.int c2), (.int c3), (.int c4), (.int c5), (.int c6), (.int c7), (.int c8)] (.int (0 : Int32))) :
    MetFree l (⟨"com/example/stratum/stratum/index/PostingsPutVarIntPinLaw", "ok", "([BIIIIB)Z"⟩ : MethodName) (head1 (Jvm.Cond.code (⟨"com/example/stratum/stratum/index/PostingsPutVarIntPinLaw", "ok", "([BIIIIB)Z"⟩ : MethodName) method_4_code 9 (some .boolean) :: ws) ({ frames := 0, cells := 0, slots := 0, locals := 0 } : Room)) (fun a U => a = #[(.ref a1), (.int (7 : Int32)), (.int p3), (.int p4), (.int p5), (.int p6)] ∧ Z.Warmed39 U.vm ∧ U.heap = h0) (fun _ _ _ _ _ => True) (fun _ U o U' => ∃ v L, o = .returned v ∧ Qok7 Z a1 p3 p4 p5 p6 k1 c0 c1 c2 c3 c4 c5 c6 c7 c8 h0 n0 v U'.heap L ∧ FrameEnd U o U' L ({ frames := 0, cells := 0, slots := 0, locals := 0 } : Room).cells ({ frames := 0, cells := 0, slots := 0, locals := 0 } : Room).slots) := by
  refine MetFree.of_bodySF (plainFor_of_name pn_ok7) hisR ?_
  intro p e s m args below meth c s₁ Bd hml0 hP hK
  obtain ⟨rfl, hZ, hh⟩ := hP
  have hx := Bd.exec
  have hby := Bd.bytes
  have hml : c.maxLocals = 9 := hml0
  have hown : s.vm.findClass "com/example/stratum/stratum/index/PostingsPutVarIntPinLaw" = some m.cls := findClass_of_methodNamed Bd.named
  have hnm := (name_of_methodNamed Bd.named Bd.method).1
  have X0 : Stand p l e ({ frames := 0, cells := 0, slots := 0, locals := 0 } : Room) s m #[(.ref a1), (.int (7 : Int32)), (.int p3), (.int p4), (.int p5), (.int p6)] below meth c s₁ [] 0 0 := Stand.of_body Bd
  have e0 : s₁.heap = h0 := by rw [← hh, Bd.state]; rfl
  have N0 := Fr.nil n0
  have pre0 : ∀ t, Steps p.tables e below (s₁.setTop (mkF m 0 #[.val (.ref a1), .val (.int (7 : Int32)), .val (.int p3), .val (.int p4), .val (.int p5), .val (.int p6), .unset, .unset, .unset] [])) t → Steps p.tables e below (s₁.setTop (entryFrame m #[(.ref a1), (.int (7 : Int32)), (.int p3), (.int p4), (.int p5), (.int p6)] 9)) t := fun t k => castTop (ef_ok7 m a1 p3 p4 p5 p6) k
  refine own_step (Q := fun o U' => ∃ v L, o = .returned v ∧ Qok7 Z a1 p3 p4 p5 p6 k1 c0 c1 c2 c3 c4 c5 c6 c7 c8 h0 n0 v U'.heap L ∧ FrameEnd s o U' L ({ frames := 0, cells := 0, slots := 0, locals := 0 } : Room).cells ({ frames := 0, cells := 0, slots := 0, locals := 0 } : Room).slots) pre0 ?_
  refine own_step (B := s₁.setTop (mkF m 2 #[.val (.ref a1), .val (.int (7 : Int32)), .val (.int p3), .val (.int p4), .val (.int p5), .val (.int p6), .unset, .unset, .unset] [(.int p3), (.int (7 : Int32))])) (fun t k => ?_) ?_
  · show Steps p.tables e below (s₁.setTop (mkF m 0 #[.val (.ref a1), .val (.int (7 : Int32)), .val (.int p3), .val (.int p4), .val (.int p5), .val (.int p6), .unset, .unset, .unset] [])) _
    refine XS.iloadN X0.here hx rfl (hb hby d3_0) rfl ?_
    show Steps p.tables e below (s₁.setTop (mkF m 1 #[.val (.ref a1), .val (.int (7 : Int32)), .val (.int p3), .val (.int p4), .val (.int p5), .val (.int p6), .unset, .unset, .unset] [(.int (7 : Int32))])) _
    refine XS.iloadN X0.here hx rfl (hb hby d3_1) rfl ?_
    exact k
  by_cases h1 : (7 : Int32) < p3
  · obtain ⟨cl2, Ar2, -, S2, M2, H2, -⟩ := id A_a1
    have hin2 := inb_of (j := (7 : Int32)) S2 (by decide)
    have hat2 := H2.at hin2 (v := (.int c7)) (rfl)
    have st4 : ∀ t, Steps p.tables e below (s₁.setTop (mkF m 25 #[.val (.ref a1), .val (.int (7 : Int32)), .val (.int p3), .val (.int p4), .val (.int p5), .val (.int p6), .unset, .unset, .unset] [(.int (if c7 = p6 then (1 : Int32) else (0 : Int32)))])) t → Steps p.tables e below (s₁.setTop (mkF m 17 #[.val (.ref a1), .val (.int (7 : Int32)), .val (.int p3), .val (.int p4), .val (.int p5), .val (.int p6), .unset, .unset, .unset] [(.int p6), (.int c7)])) t := by
      intro t k
      by_cases h3 : c7 = p6
      · rw [show (if c7 = p6 then (1 : Int32) else (0 : Int32)) = (1 : Int32) from if_pos h3] at k
        show Steps p.tables e below (s₁.setTop (mkF m 17 #[.val (.ref a1), .val (.int (7 : Int32)), .val (.int p3), .val (.int p4), .val (.int p5), .val (.int p6), .unset, .unset, .unset] [(.int p6), (.int c7)])) _
        refine XS.icmpNo X0.here hx rfl (hb hby d3_17) rfl (teq h3).2 ?_
        show Steps p.tables e below (s₁.setTop (mkF m 20 #[.val (.ref a1), .val (.int (7 : Int32)), .val (.int p3), .val (.int p4), .val (.int p5), .val (.int p6), .unset, .unset, .unset] [])) _
        refine XS.iconst X0.here hx rfl (hb hby d3_20) ?_
        show Steps p.tables e below (s₁.setTop (mkF m 21 #[.val (.ref a1), .val (.int (7 : Int32)), .val (.int p3), .val (.int p4), .val (.int p5), .val (.int p6), .unset, .unset, .unset] [(.int (1 : Int32))])) _
        refine XS.goto X0.here hx rfl (pc0 := 21) (pc' := 25) rfl (hb hby d3_21) (by decide) (by decide) ?_
        exact k
      · rw [show (if c7 = p6 then (1 : Int32) else (0 : Int32)) = (0 : Int32) from if_neg h3] at k
        show Steps p.tables e below (s₁.setTop (mkF m 17 #[.val (.ref a1), .val (.int (7 : Int32)), .val (.int p3), .val (.int p4), .val (.int p5), .val (.int p6), .unset, .unset, .unset] [(.int p6), (.int c7)])) _
        refine XS.icmpYes X0.here hx rfl (pc0 := 17) (pc' := 24) rfl (hb hby d3_17) rfl (feq h3).2 (by decide) (by decide) ?_
        show Steps p.tables e below (s₁.setTop (mkF m 24 #[.val (.ref a1), .val (.int (7 : Int32)), .val (.int p3), .val (.int p4), .val (.int p5), .val (.int p6), .unset, .unset, .unset] [])) _
        refine XS.iconst X0.here hx rfl (hb hby d3_24) ?_
        exact k
    obtain ⟨fs, hr, hrun, hended, hW, hsame⟩ := X0.leave (v := some (.int ((if c7 = p6 then (1 : Int32) else (0 : Int32)) &&& 1))) (fun h => by rw [Bd.returns] at h; cases h)
    refine ⟨_, _, ?_, hrun, hended, _, _, rfl, ?_, ⟨_, rfl⟩, hW, hsame.mono (by decide) (by decide)⟩
    · show Steps p.tables e below (s₁.setTop (mkF m 2 #[.val (.ref a1), .val (.int (7 : Int32)), .val (.int p3), .val (.int p4), .val (.int p5), .val (.int p6), .unset, .unset, .unset] [(.int p3), (.int (7 : Int32))])) _
      refine XS.icmpYes X0.here hx rfl (pc0 := 2) (pc' := 12) rfl (hb hby d3_2) rfl (tlt h1).1 (by decide) (by decide) ?_
      show Steps p.tables e below (s₁.setTop (mkF m 12 #[.val (.ref a1), .val (.int (7 : Int32)), .val (.int p3), .val (.int p4), .val (.int p5), .val (.int p6), .unset, .unset, .unset] [])) _
      refine XS.aloadN X0.here hx rfl (hb hby d3_12) rfl rfl ?_
      show Steps p.tables e below (s₁.setTop (mkF m 13 #[.val (.ref a1), .val (.int (7 : Int32)), .val (.int p3), .val (.int p4), .val (.int p5), .val (.int p6), .unset, .unset, .unset] [(.ref a1)])) _
      refine XS.iloadN X0.here hx rfl (hb hby d3_13) rfl ?_
      show Steps p.tables e below (s₁.setTop (mkF m 14 #[.val (.ref a1), .val (.int (7 : Int32)), .val (.int p3), .val (.int p4), .val (.int p5), .val (.int p6), .unset, .unset, .unset] [(.int (7 : Int32)), (.ref a1)])) _
      refine X0.baloadBytes hx (j := (7 : Int32)) (v := (.int c7)) (by rw [e0]; exact Ar2.1) (State.isArrayOf_alike hZ.alike Ar2.2.1) Ar2.2.2 hin2 hat2 (g := (mkF m 14 #[.val (.ref a1), .val (.int (7 : Int32)), .val (.int p3), .val (.int p4), .val (.int p5), .val (.int p6), .unset, .unset, .unset] [(.int (7 : Int32)), (.ref a1)])) rfl rfl (hb hby d3_14) _ ?_
      show Steps p.tables e below (s₁.setTop (mkF m 15 #[.val (.ref a1), .val (.int (7 : Int32)), .val (.int p3), .val (.int p4), .val (.int p5), .val (.int p6), .unset, .unset, .unset] [(.int c7)])) _
      refine XS.iload X0.here hx rfl (hb hby d3_15) rfl ?_
      show Steps p.tables e below (s₁.setTop (mkF m 17 #[.val (.ref a1), .val (.int (7 : Int32)), .val (.int p3), .val (.int p4), .val (.int p5), .val (.int p6), .unset, .unset, .unset] [(.int p6), (.int c7)])) _
      refine st4 _ ?_
      show Steps p.tables e below (s₁.setTop (mkF m 25 #[.val (.ref a1), .val (.int (7 : Int32)), .val (.int p3), .val (.int p4), .val (.int p5), .val (.int p6), .unset, .unset, .unset] [(.int (if c7 = p6 then (1 : Int32) else (0 : Int32)))])) _
      exact retN X0 hx (t := .boolean) Bd.returns (by simp) (hb hby d3_25) hr
    · show Qok7 Z a1 p3 p4 p5 p6 k1 c0 c1 c2 c3 c4 c5 c6 c7 c8 h0 n0 _ s₁.heap _
      rw [e0]
      have hf : fok7 p3 p4 p5 p6 c0 c1 c2 c3 c4 c5 c6 c7 c8 = ((if c7 = p6 then (1 : Int32) else (0 : Int32)) &&& 1) := by simp only [fok7, if_pos h1]
      exact ⟨by rw [hf], N0, rfl⟩
  · refine own_step (B := s₁.setTop (mkF m 9 #[.val (.ref a1), .val (.int (7 : Int32)), .val (.int p3), .val (.int p4), .val (.int p5), .val (.int p6), .unset, .unset, .unset] [(.int (p3 + p4)), (.int (7 : Int32))])) (fun t k => ?_) ?_
    · show Steps p.tables e below (s₁.setTop (mkF m 2 #[.val (.ref a1), .val (.int (7 : Int32)), .val (.int p3), .val (.int p4), .val (.int p5), .val (.int p6), .unset, .unset, .unset] [(.int p3), (.int (7 : Int32))])) _
      refine XS.icmpNo X0.here hx rfl (hb hby d3_2) rfl (flt h1).1 ?_
      show Steps p.tables e below (s₁.setTop (mkF m 5 #[.val (.ref a1), .val (.int (7 : Int32)), .val (.int p3), .val (.int p4), .val (.int p5), .val (.int p6), .unset, .unset, .unset] [])) _
      refine XS.iloadN X0.here hx rfl (hb hby d3_5) rfl ?_
      show Steps p.tables e below (s₁.setTop (mkF m 6 #[.val (.ref a1), .val (.int (7 : Int32)), .val (.int p3), .val (.int p4), .val (.int p5), .val (.int p6), .unset, .unset, .unset] [(.int (7 : Int32))])) _
      refine XS.iloadN X0.here hx rfl (hb hby d3_6) rfl ?_
      show Steps p.tables e below (s₁.setTop (mkF m 7 #[.val (.ref a1), .val (.int (7 : Int32)), .val (.int p3), .val (.int p4), .val (.int p5), .val (.int p6), .unset, .unset, .unset] [(.int p3), (.int (7 : Int32))])) _
      refine XS.iloadN X0.here hx rfl (hb hby d3_7) rfl ?_
      show Steps p.tables e below (s₁.setTop (mkF m 8 #[.val (.ref a1), .val (.int (7 : Int32)), .val (.int p3), .val (.int p4), .val (.int p5), .val (.int p6), .unset, .unset, .unset] [(.int p4), (.int p3), (.int (7 : Int32))])) _
      refine XS.iadd X0.here hx rfl (hb hby d3_8) rfl ?_
      exact k
    by_cases h5 : (7 : Int32) < (p3 + p4)
    · have st7 : ∀ t, Steps p.tables e below (s₁.setTop (mkF m 63 #[.val (.ref a1), .val (.int (7 : Int32)), .val (.int p3), .val (.int p4), .val (.int p5), .val (.int p6), .val (.int ((7 : Int32) - p3)), .val (.int ((XT.ushr p5 ((7 : Int32) * ((7 : Int32) - p3))) &&& (127 : Int32))), .unset] [(.int (fok7_0 p3 p4 p5 p6 c0 c1 c2 c3 c4 c5 c6 c7 c8))])) t → Steps p.tables e below (s₁.setTop (mkF m 49 #[.val (.ref a1), .val (.int (7 : Int32)), .val (.int p3), .val (.int p4), .val (.int p5), .val (.int p6), .val (.int ((7 : Int32) - p3)), .val (.int ((XT.ushr p5 ((7 : Int32) * ((7 : Int32) - p3))) &&& (127 : Int32))), .unset] [(.int (p4 - (1 : Int32))), (.int ((7 : Int32) - p3))])) t := by
        intro t k
        by_cases h6 : ((7 : Int32) - p3) < (p4 - (1 : Int32))
        · rw [show (fok7_0 p3 p4 p5 p6 c0 c1 c2 c3 c4 c5 c6 c7 c8) = (((XT.ushr p5 ((7 : Int32) * ((7 : Int32) - p3))) &&& (127 : Int32)) ||| (128 : Int32)) from if_pos h6] at k
          show Steps p.tables e below (s₁.setTop (mkF m 49 #[.val (.ref a1), .val (.int (7 : Int32)), .val (.int p3), .val (.int p4), .val (.int p5), .val (.int p6), .val (.int ((7 : Int32) - p3)), .val (.int ((XT.ushr p5 ((7 : Int32) * ((7 : Int32) - p3))) &&& (127 : Int32))), .unset] [(.int (p4 - (1 : Int32))), (.int ((7 : Int32) - p3))])) _
          refine XS.icmpNo X0.here hx rfl (hb hby d3_49) rfl (tlt h6).2.1 ?_
          show Steps p.tables e below (s₁.setTop (mkF m 52 #[.val (.ref a1), .val (.int (7 : Int32)), .val (.int p3), .val (.int p4), .val (.int p5), .val (.int p6), .val (.int ((7 : Int32) - p3)), .val (.int ((XT.ushr p5 ((7 : Int32) * ((7 : Int32) - p3))) &&& (127 : Int32))), .unset] [])) _
          refine XS.iload X0.here hx rfl (hb hby d3_52) rfl ?_
          show Steps p.tables e below (s₁.setTop (mkF m 54 #[.val (.ref a1), .val (.int (7 : Int32)), .val (.int p3), .val (.int p4), .val (.int p5), .val (.int p6), .val (.int ((7 : Int32) - p3)), .val (.int ((XT.ushr p5 ((7 : Int32) * ((7 : Int32) - p3))) &&& (127 : Int32))), .unset] [(.int ((XT.ushr p5 ((7 : Int32) * ((7 : Int32) - p3))) &&& (127 : Int32)))])) _
          refine XS.sipush X0.here hx rfl (hb hby d3_54) ?_
          show Steps p.tables e below (s₁.setTop (mkF m 57 #[.val (.ref a1), .val (.int (7 : Int32)), .val (.int p3), .val (.int p4), .val (.int p5), .val (.int p6), .val (.int ((7 : Int32) - p3)), .val (.int ((XT.ushr p5 ((7 : Int32) * ((7 : Int32) - p3))) &&& (127 : Int32))), .unset] [(.int (128 : Int32)), (.int ((XT.ushr p5 ((7 : Int32) * ((7 : Int32) - p3))) &&& (127 : Int32)))])) _
          refine XT.ior X0.here hx rfl (hb hby d3_57) rfl ?_
          show Steps p.tables e below (s₁.setTop (mkF m 58 #[.val (.ref a1), .val (.int (7 : Int32)), .val (.int p3), .val (.int p4), .val (.int p5), .val (.int p6), .val (.int ((7 : Int32) - p3)), .val (.int ((XT.ushr p5 ((7 : Int32) * ((7 : Int32) - p3))) &&& (127 : Int32))), .unset] [(.int (((XT.ushr p5 ((7 : Int32) * ((7 : Int32) - p3))) &&& (127 : Int32)) ||| (128 : Int32)))])) _
          refine XS.goto X0.here hx rfl (pc0 := 58) (pc' := 63) rfl (hb hby d3_58) (by decide) (by decide) ?_
          exact k
        · rw [show (fok7_0 p3 p4 p5 p6 c0 c1 c2 c3 c4 c5 c6 c7 c8) = ((XT.ushr p5 ((7 : Int32) * ((7 : Int32) - p3))) &&& (127 : Int32)) from if_neg h6] at k
          show Steps p.tables e below (s₁.setTop (mkF m 49 #[.val (.ref a1), .val (.int (7 : Int32)), .val (.int p3), .val (.int p4), .val (.int p5), .val (.int p6), .val (.int ((7 : Int32) - p3)), .val (.int ((XT.ushr p5 ((7 : Int32) * ((7 : Int32) - p3))) &&& (127 : Int32))), .unset] [(.int (p4 - (1 : Int32))), (.int ((7 : Int32) - p3))])) _
          refine XS.icmpYes X0.here hx rfl (pc0 := 49) (pc' := 61) rfl (hb hby d3_49) rfl (flt h6).2.1 (by decide) (by decide) ?_
          show Steps p.tables e below (s₁.setTop (mkF m 61 #[.val (.ref a1), .val (.int (7 : Int32)), .val (.int p3), .val (.int p4), .val (.int p5), .val (.int p6), .val (.int ((7 : Int32) - p3)), .val (.int ((XT.ushr p5 ((7 : Int32) * ((7 : Int32) - p3))) &&& (127 : Int32))), .unset] [])) _
          refine XS.iload X0.here hx rfl (hb hby d3_61) rfl ?_
          exact k
      obtain ⟨cl8, Ar8, -, S8, M8, H8, -⟩ := id A_a1
      have hin8 := inb_of (j := (7 : Int32)) S8 (by decide)
      have hat8 := H8.at hin8 (v := (.int c7)) (rfl)
      have st10 : ∀ t, Steps p.tables e below (s₁.setTop (mkF m 79 #[.val (.ref a1), .val (.int (7 : Int32)), .val (.int p3), .val (.int p4), .val (.int p5), .val (.int p6), .val (.int ((7 : Int32) - p3)), .val (.int ((XT.ushr p5 ((7 : Int32) * ((7 : Int32) - p3))) &&& (127 : Int32))), .val (.int (fok7_0 p3 p4 p5 p6 c0 c1 c2 c3 c4 c5 c6 c7 c8))] [(.int (fok7_1 p3 p4 p5 p6 c0 c1 c2 c3 c4 c5 c6 c7 c8))])) t → Steps p.tables e below (s₁.setTop (mkF m 71 #[.val (.ref a1), .val (.int (7 : Int32)), .val (.int p3), .val (.int p4), .val (.int p5), .val (.int p6), .val (.int ((7 : Int32) - p3)), .val (.int ((XT.ushr p5 ((7 : Int32) * ((7 : Int32) - p3))) &&& (127 : Int32))), .val (.int (fok7_0 p3 p4 p5 p6 c0 c1 c2 c3 c4 c5 c6 c7 c8))] [(.int (fok7_0 p3 p4 p5 p6 c0 c1 c2 c3 c4 c5 c6 c7 c8).toInt8.toInt32), (.int c7)])) t := by
        intro t k
        by_cases h9 : c7 = (fok7_0 p3 p4 p5 p6 c0 c1 c2 c3 c4 c5 c6 c7 c8).toInt8.toInt32
        · rw [show (fok7_1 p3 p4 p5 p6 c0 c1 c2 c3 c4 c5 c6 c7 c8) = (1 : Int32) from if_pos h9] at k
          show Steps p.tables e below (s₁.setTop (mkF m 71 #[.val (.ref a1), .val (.int (7 : Int32)), .val (.int p3), .val (.int p4), .val (.int p5), .val (.int p6), .val (.int ((7 : Int32) - p3)), .val (.int ((XT.ushr p5 ((7 : Int32) * ((7 : Int32) - p3))) &&& (127 : Int32))), .val (.int (fok7_0 p3 p4 p5 p6 c0 c1 c2 c3 c4 c5 c6 c7 c8))] [(.int (fok7_0 p3 p4 p5 p6 c0 c1 c2 c3 c4 c5 c6 c7 c8).toInt8.toInt32), (.int c7)])) _
          refine XS.icmpNo X0.here hx rfl (hb hby d3_71) rfl (teq h9).2 ?_
          show Steps p.tables e below (s₁.setTop (mkF m 74 #[.val (.ref a1), .val (.int (7 : Int32)), .val (.int p3), .val (.int p4), .val (.int p5), .val (.int p6), .val (.int ((7 : Int32) - p3)), .val (.int ((XT.ushr p5 ((7 : Int32) * ((7 : Int32) - p3))) &&& (127 : Int32))), .val (.int (fok7_0 p3 p4 p5 p6 c0 c1 c2 c3 c4 c5 c6 c7 c8))] [])) _
          refine XS.iconst X0.here hx rfl (hb hby d3_74) ?_
          show Steps p.tables e below (s₁.setTop (mkF m 75 #[.val (.ref a1), .val (.int (7 : Int32)), .val (.int p3), .val (.int p4), .val (.int p5), .val (.int p6), .val (.int ((7 : Int32) - p3)), .val (.int ((XT.ushr p5 ((7 : Int32) * ((7 : Int32) - p3))) &&& (127 : Int32))), .val (.int (fok7_0 p3 p4 p5 p6 c0 c1 c2 c3 c4 c5 c6 c7 c8))] [(.int (1 : Int32))])) _
          refine XS.goto X0.here hx rfl (pc0 := 75) (pc' := 79) rfl (hb hby d3_75) (by decide) (by decide) ?_
          exact k
        · rw [show (fok7_1 p3 p4 p5 p6 c0 c1 c2 c3 c4 c5 c6 c7 c8) = (0 : Int32) from if_neg h9] at k
          show Steps p.tables e below (s₁.setTop (mkF m 71 #[.val (.ref a1), .val (.int (7 : Int32)), .val (.int p3), .val (.int p4), .val (.int p5), .val (.int p6), .val (.int ((7 : Int32) - p3)), .val (.int ((XT.ushr p5 ((7 : Int32) * ((7 : Int32) - p3))) &&& (127 : Int32))), .val (.int (fok7_0 p3 p4 p5 p6 c0 c1 c2 c3 c4 c5 c6 c7 c8))] [(.int (fok7_0 p3 p4 p5 p6 c0 c1 c2 c3 c4 c5 c6 c7 c8).toInt8.toInt32), (.int c7)])) _
          refine XS.icmpYes X0.here hx rfl (pc0 := 71) (pc' := 78) rfl (hb hby d3_71) rfl (feq h9).2 (by decide) (by decide) ?_
          show Steps p.tables e below (s₁.setTop (mkF m 78 #[.val (.ref a1), .val (.int (7 : Int32)), .val (.int p3), .val (.int p4), .val (.int p5), .val (.int p6), .val (.int ((7 : Int32) - p3)), .val (.int ((XT.ushr p5 ((7 : Int32) * ((7 : Int32) - p3))) &&& (127 : Int32))), .val (.int (fok7_0 p3 p4 p5 p6 c0 c1 c2 c3 c4 c5 c6 c7 c8))] [])) _
          refine XS.iconst X0.here hx rfl (hb hby d3_78) ?_
          exact k
      obtain ⟨fs, hr, hrun, hended, hW, hsame⟩ := X0.leave (v := some (.int ((fok7_1 p3 p4 p5 p6 c0 c1 c2 c3 c4 c5 c6 c7 c8) &&& 1))) (fun h => by rw [Bd.returns] at h; cases h)
      refine ⟨_, _, ?_, hrun, hended, _, _, rfl, ?_, ⟨_, rfl⟩, hW, hsame.mono (by decide) (by decide)⟩
      · show Steps p.tables e below (s₁.setTop (mkF m 9 #[.val (.ref a1), .val (.int (7 : Int32)), .val (.int p3), .val (.int p4), .val (.int p5), .val (.int p6), .unset, .unset, .unset] [(.int (p3 + p4)), (.int (7 : Int32))])) _
        refine XS.icmpYes X0.here hx rfl (pc0 := 9) (pc' := 26) rfl (hb hby d3_9) rfl (tlt h5).1 (by decide) (by decide) ?_
        show Steps p.tables e below (s₁.setTop (mkF m 26 #[.val (.ref a1), .val (.int (7 : Int32)), .val (.int p3), .val (.int p4), .val (.int p5), .val (.int p6), .unset, .unset, .unset] [])) _
        refine XS.iloadN X0.here hx rfl (hb hby d3_26) rfl ?_
        show Steps p.tables e below (s₁.setTop (mkF m 27 #[.val (.ref a1), .val (.int (7 : Int32)), .val (.int p3), .val (.int p4), .val (.int p5), .val (.int p6), .unset, .unset, .unset] [(.int (7 : Int32))])) _
        refine XS.iloadN X0.here hx rfl (hb hby d3_27) rfl ?_
        show Steps p.tables e below (s₁.setTop (mkF m 28 #[.val (.ref a1), .val (.int (7 : Int32)), .val (.int p3), .val (.int p4), .val (.int p5), .val (.int p6), .unset, .unset, .unset] [(.int p3), (.int (7 : Int32))])) _
        refine XS.isub X0.here hx rfl (hb hby d3_28) rfl ?_
        show Steps p.tables e below (s₁.setTop (mkF m 29 #[.val (.ref a1), .val (.int (7 : Int32)), .val (.int p3), .val (.int p4), .val (.int p5), .val (.int p6), .unset, .unset, .unset] [(.int ((7 : Int32) - p3))])) _
        refine XS.istore X0.here hx rfl (hb hby d3_29) rfl (l' := #[.val (.ref a1), .val (.int (7 : Int32)), .val (.int p3), .val (.int p4), .val (.int p5), .val (.int p6), .val (.int ((7 : Int32) - p3)), .unset, .unset]) rfl ?_
        show Steps p.tables e below (s₁.setTop (mkF m 31 #[.val (.ref a1), .val (.int (7 : Int32)), .val (.int p3), .val (.int p4), .val (.int p5), .val (.int p6), .val (.int ((7 : Int32) - p3)), .unset, .unset] [])) _
        refine XS.iload X0.here hx rfl (hb hby d3_31) rfl ?_
        show Steps p.tables e below (s₁.setTop (mkF m 33 #[.val (.ref a1), .val (.int (7 : Int32)), .val (.int p3), .val (.int p4), .val (.int p5), .val (.int p6), .val (.int ((7 : Int32) - p3)), .unset, .unset] [(.int p5)])) _
        refine XS.bipush X0.here hx rfl (hb hby d3_33) ?_
        show Steps p.tables e below (s₁.setTop (mkF m 35 #[.val (.ref a1), .val (.int (7 : Int32)), .val (.int p3), .val (.int p4), .val (.int p5), .val (.int p6), .val (.int ((7 : Int32) - p3)), .unset, .unset] [(.int (7 : Int32)), (.int p5)])) _
        refine XS.iload X0.here hx rfl (hb hby d3_35) rfl ?_
        show Steps p.tables e below (s₁.setTop (mkF m 37 #[.val (.ref a1), .val (.int (7 : Int32)), .val (.int p3), .val (.int p4), .val (.int p5), .val (.int p6), .val (.int ((7 : Int32) - p3)), .unset, .unset] [(.int ((7 : Int32) - p3)), (.int (7 : Int32)), (.int p5)])) _
        refine XS.imul X0.here hx rfl (hb hby d3_37) rfl ?_
        show Steps p.tables e below (s₁.setTop (mkF m 38 #[.val (.ref a1), .val (.int (7 : Int32)), .val (.int p3), .val (.int p4), .val (.int p5), .val (.int p6), .val (.int ((7 : Int32) - p3)), .unset, .unset] [(.int ((7 : Int32) * ((7 : Int32) - p3))), (.int p5)])) _
        refine XT.iushr X0.here hx rfl (hb hby d3_38) rfl ?_
        show Steps p.tables e below (s₁.setTop (mkF m 39 #[.val (.ref a1), .val (.int (7 : Int32)), .val (.int p3), .val (.int p4), .val (.int p5), .val (.int p6), .val (.int ((7 : Int32) - p3)), .unset, .unset] [(.int (XT.ushr p5 ((7 : Int32) * ((7 : Int32) - p3))))])) _
        refine XS.bipush X0.here hx rfl (hb hby d3_39) ?_
        show Steps p.tables e below (s₁.setTop (mkF m 41 #[.val (.ref a1), .val (.int (7 : Int32)), .val (.int p3), .val (.int p4), .val (.int p5), .val (.int p6), .val (.int ((7 : Int32) - p3)), .unset, .unset] [(.int (127 : Int32)), (.int (XT.ushr p5 ((7 : Int32) * ((7 : Int32) - p3))))])) _
        refine XS.iand X0.here hx rfl (hb hby d3_41) rfl ?_
        show Steps p.tables e below (s₁.setTop (mkF m 42 #[.val (.ref a1), .val (.int (7 : Int32)), .val (.int p3), .val (.int p4), .val (.int p5), .val (.int p6), .val (.int ((7 : Int32) - p3)), .unset, .unset] [(.int ((XT.ushr p5 ((7 : Int32) * ((7 : Int32) - p3))) &&& (127 : Int32)))])) _
        refine XS.istore X0.here hx rfl (hb hby d3_42) rfl (l' := #[.val (.ref a1), .val (.int (7 : Int32)), .val (.int p3), .val (.int p4), .val (.int p5), .val (.int p6), .val (.int ((7 : Int32) - p3)), .val (.int ((XT.ushr p5 ((7 : Int32) * ((7 : Int32) - p3))) &&& (127 : Int32))), .unset]) rfl ?_
        show Steps p.tables e below (s₁.setTop (mkF m 44 #[.val (.ref a1), .val (.int (7 : Int32)), .val (.int p3), .val (.int p4), .val (.int p5), .val (.int p6), .val (.int ((7 : Int32) - p3)), .val (.int ((XT.ushr p5 ((7 : Int32) * ((7 : Int32) - p3))) &&& (127 : Int32))), .unset] [])) _
        refine XS.iload X0.here hx rfl (hb hby d3_44) rfl ?_
        show Steps p.tables e below (s₁.setTop (mkF m 46 #[.val (.ref a1), .val (.int (7 : Int32)), .val (.int p3), .val (.int p4), .val (.int p5), .val (.int p6), .val (.int ((7 : Int32) - p3)), .val (.int ((XT.ushr p5 ((7 : Int32) * ((7 : Int32) - p3))) &&& (127 : Int32))), .unset] [(.int ((7 : Int32) - p3))])) _
        refine XS.iloadN X0.here hx rfl (hb hby d3_46) rfl ?_
        show Steps p.tables e below (s₁.setTop (mkF m 47 #[.val (.ref a1), .val (.int (7 : Int32)), .val (.int p3), .val (.int p4), .val (.int p5), .val (.int p6), .val (.int ((7 : Int32) - p3)), .val (.int ((XT.ushr p5 ((7 : Int32) * ((7 : Int32) - p3))) &&& (127 : Int32))), .unset] [(.int p4), (.int ((7 : Int32) - p3))])) _
        refine XS.iconst X0.here hx rfl (hb hby d3_47) ?_
        show Steps p.tables e below (s₁.setTop (mkF m 48 #[.val (.ref a1), .val (.int (7 : Int32)), .val (.int p3), .val (.int p4), .val (.int p5), .val (.int p6), .val (.int ((7 : Int32) - p3)), .val (.int ((XT.ushr p5 ((7 : Int32) * ((7 : Int32) - p3))) &&& (127 : Int32))), .unset] [(.int (1 : Int32)), (.int p4), (.int ((7 : Int32) - p3))])) _
        refine XS.isub X0.here hx rfl (hb hby d3_48) rfl ?_
        show Steps p.tables e below (s₁.setTop (mkF m 49 #[.val (.ref a1), .val (.int (7 : Int32)), .val (.int p3), .val (.int p4), .val (.int p5), .val (.int p6), .val (.int ((7 : Int32) - p3)), .val (.int ((XT.ushr p5 ((7 : Int32) * ((7 : Int32) - p3))) &&& (127 : Int32))), .unset] [(.int (p4 - (1 : Int32))), (.int ((7 : Int32) - p3))])) _
        refine st7 _ ?_
        show Steps p.tables e below (s₁.setTop (mkF m 63 #[.val (.ref a1), .val (.int (7 : Int32)), .val (.int p3), .val (.int p4), .val (.int p5), .val (.int p6), .val (.int ((7 : Int32) - p3)), .val (.int ((XT.ushr p5 ((7 : Int32) * ((7 : Int32) - p3))) &&& (127 : Int32))), .unset] [(.int (fok7_0 p3 p4 p5 p6 c0 c1 c2 c3 c4 c5 c6 c7 c8))])) _
        refine XS.istore X0.here hx rfl (hb hby d3_63) rfl (l' := #[.val (.ref a1), .val (.int (7 : Int32)), .val (.int p3), .val (.int p4), .val (.int p5), .val (.int p6), .val (.int ((7 : Int32) - p3)), .val (.int ((XT.ushr p5 ((7 : Int32) * ((7 : Int32) - p3))) &&& (127 : Int32))), .val (.int (fok7_0 p3 p4 p5 p6 c0 c1 c2 c3 c4 c5 c6 c7 c8))]) rfl ?_
        show Steps p.tables e below (s₁.setTop (mkF m 65 #[.val (.ref a1), .val (.int (7 : Int32)), .val (.int p3), .val (.int p4), .val (.int p5), .val (.int p6), .val (.int ((7 : Int32) - p3)), .val (.int ((XT.ushr p5 ((7 : Int32) * ((7 : Int32) - p3))) &&& (127 : Int32))), .val (.int (fok7_0 p3 p4 p5 p6 c0 c1 c2 c3 c4 c5 c6 c7 c8))] [])) _
        refine XS.aloadN X0.here hx rfl (hb hby d3_65) rfl rfl ?_
        show Steps p.tables e below (s₁.setTop (mkF m 66 #[.val (.ref a1), .val (.int (7 : Int32)), .val (.int p3), .val (.int p4), .val (.int p5), .val (.int p6), .val (.int ((7 : Int32) - p3)), .val (.int ((XT.ushr p5 ((7 : Int32) * ((7 : Int32) - p3))) &&& (127 : Int32))), .val (.int (fok7_0 p3 p4 p5 p6 c0 c1 c2 c3 c4 c5 c6 c7 c8))] [(.ref a1)])) _
        refine XS.iloadN X0.here hx rfl (hb hby d3_66) rfl ?_
        show Steps p.tables e below (s₁.setTop (mkF m 67 #[.val (.ref a1), .val (.int (7 : Int32)), .val (.int p3), .val (.int p4), .val (.int p5), .val (.int p6), .val (.int ((7 : Int32) - p3)), .val (.int ((XT.ushr p5 ((7 : Int32) * ((7 : Int32) - p3))) &&& (127 : Int32))), .val (.int (fok7_0 p3 p4 p5 p6 c0 c1 c2 c3 c4 c5 c6 c7 c8))] [(.int (7 : Int32)), (.ref a1)])) _
        refine X0.baloadBytes hx (j := (7 : Int32)) (v := (.int c7)) (by rw [e0]; exact Ar8.1) (State.isArrayOf_alike hZ.alike Ar8.2.1) Ar8.2.2 hin8 hat8 (g := (mkF m 67 #[.val (.ref a1), .val (.int (7 : Int32)), .val (.int p3), .val (.int p4), .val (.int p5), .val (.int p6), .val (.int ((7 : Int32) - p3)), .val (.int ((XT.ushr p5 ((7 : Int32) * ((7 : Int32) - p3))) &&& (127 : Int32))), .val (.int (fok7_0 p3 p4 p5 p6 c0 c1 c2 c3 c4 c5 c6 c7 c8))] [(.int (7 : Int32)), (.ref a1)])) rfl rfl (hb hby d3_67) _ ?_
        show Steps p.tables e below (s₁.setTop (mkF m 68 #[.val (.ref a1), .val (.int (7 : Int32)), .val (.int p3), .val (.int p4), .val (.int p5), .val (.int p6), .val (.int ((7 : Int32) - p3)), .val (.int ((XT.ushr p5 ((7 : Int32) * ((7 : Int32) - p3))) &&& (127 : Int32))), .val (.int (fok7_0 p3 p4 p5 p6 c0 c1 c2 c3 c4 c5 c6 c7 c8))] [(.int c7)])) _
        refine XS.iload X0.here hx rfl (hb hby d3_68) rfl ?_
        show Steps p.tables e below (s₁.setTop (mkF m 70 #[.val (.ref a1), .val (.int (7 : Int32)), .val (.int p3), .val (.int p4), .val (.int p5), .val (.int p6), .val (.int ((7 : Int32) - p3)), .val (.int ((XT.ushr p5 ((7 : Int32) * ((7 : Int32) - p3))) &&& (127 : Int32))), .val (.int (fok7_0 p3 p4 p5 p6 c0 c1 c2 c3 c4 c5 c6 c7 c8))] [(.int (fok7_0 p3 p4 p5 p6 c0 c1 c2 c3 c4 c5 c6 c7 c8)), (.int c7)])) _
        refine XT.i2b X0.here hx rfl (hb hby d3_70) rfl ?_
        show Steps p.tables e below (s₁.setTop (mkF m 71 #[.val (.ref a1), .val (.int (7 : Int32)), .val (.int p3), .val (.int p4), .val (.int p5), .val (.int p6), .val (.int ((7 : Int32) - p3)), .val (.int ((XT.ushr p5 ((7 : Int32) * ((7 : Int32) - p3))) &&& (127 : Int32))), .val (.int (fok7_0 p3 p4 p5 p6 c0 c1 c2 c3 c4 c5 c6 c7 c8))] [(.int (fok7_0 p3 p4 p5 p6 c0 c1 c2 c3 c4 c5 c6 c7 c8).toInt8.toInt32), (.int c7)])) _
        refine st10 _ ?_
        show Steps p.tables e below (s₁.setTop (mkF m 79 #[.val (.ref a1), .val (.int (7 : Int32)), .val (.int p3), .val (.int p4), .val (.int p5), .val (.int p6), .val (.int ((7 : Int32) - p3)), .val (.int ((XT.ushr p5 ((7 : Int32) * ((7 : Int32) - p3))) &&& (127 : Int32))), .val (.int (fok7_0 p3 p4 p5 p6 c0 c1 c2 c3 c4 c5 c6 c7 c8))] [(.int (fok7_1 p3 p4 p5 p6 c0 c1 c2 c3 c4 c5 c6 c7 c8))])) _
        exact retN X0 hx (t := .boolean) Bd.returns (by simp) (hb hby d3_79) hr
      · show Qok7 Z a1 p3 p4 p5 p6 k1 c0 c1 c2 c3 c4 c5 c6 c7 c8 h0 n0 _ s₁.heap _
        rw [e0]
        have hf : fok7 p3 p4 p5 p6 c0 c1 c2 c3 c4 c5 c6 c7 c8 = ((fok7_1 p3 p4 p5 p6 c0 c1 c2 c3 c4 c5 c6 c7 c8) &&& 1) := by simp only [fok7, if_neg h1, if_pos h5]
        exact ⟨by rw [hf], N0, rfl⟩
    · obtain ⟨cl11, Ar11, -, S11, M11, H11, -⟩ := id A_a1
      have hin11 := inb_of (j := (7 : Int32)) S11 (by decide)
      have hat11 := H11.at hin11 (v := (.int c7)) (rfl)
      have st13 : ∀ t, Steps p.tables e below (s₁.setTop (mkF m 25 #[.val (.ref a1), .val (.int (7 : Int32)), .val (.int p3), .val (.int p4), .val (.int p5), .val (.int p6), .unset, .unset, .unset] [(.int (if c7 = p6 then (1 : Int32) else (0 : Int32)))])) t → Steps p.tables e below (s₁.setTop (mkF m 17 #[.val (.ref a1), .val (.int (7 : Int32)), .val (.int p3), .val (.int p4), .val (.int p5), .val (.int p6), .unset, .unset, .unset] [(.int p6), (.int c7)])) t := by
        intro t k
        by_cases h12 : c7 = p6
        · rw [show (if c7 = p6 then (1 : Int32) else (0 : Int32)) = (1 : Int32) from if_pos h12] at k
          show Steps p.tables e below (s₁.setTop (mkF m 17 #[.val (.ref a1), .val (.int (7 : Int32)), .val (.int p3), .val (.int p4), .val (.int p5), .val (.int p6), .unset, .unset, .unset] [(.int p6), (.int c7)])) _
          refine XS.icmpNo X0.here hx rfl (hb hby d3_17) rfl (teq h12).2 ?_
          show Steps p.tables e below (s₁.setTop (mkF m 20 #[.val (.ref a1), .val (.int (7 : Int32)), .val (.int p3), .val (.int p4), .val (.int p5), .val (.int p6), .unset, .unset, .unset] [])) _
          refine XS.iconst X0.here hx rfl (hb hby d3_20) ?_
          show Steps p.tables e below (s₁.setTop (mkF m 21 #[.val (.ref a1), .val (.int (7 : Int32)), .val (.int p3), .val (.int p4), .val (.int p5), .val (.int p6), .unset, .unset, .unset] [(.int (1 : Int32))])) _
          refine XS.goto X0.here hx rfl (pc0 := 21) (pc' := 25) rfl (hb hby d3_21) (by decide) (by decide) ?_
          exact k
        · rw [show (if c7 = p6 then (1 : Int32) else (0 : Int32)) = (0 : Int32) from if_neg h12] at k
          show Steps p.tables e below (s₁.setTop (mkF m 17 #[.val (.ref a1), .val (.int (7 : Int32)), .val (.int p3), .val (.int p4), .val (.int p5), .val (.int p6), .unset, .unset, .unset] [(.int p6), (.int c7)])) _
          refine XS.icmpYes X0.here hx rfl (pc0 := 17) (pc' := 24) rfl (hb hby d3_17) rfl (feq h12).2 (by decide) (by decide) ?_
          show Steps p.tables e below (s₁.setTop (mkF m 24 #[.val (.ref a1), .val (.int (7 : Int32)), .val (.int p3), .val (.int p4), .val (.int p5), .val (.int p6), .unset, .unset, .unset] [])) _
          refine XS.iconst X0.here hx rfl (hb hby d3_24) ?_
          exact k
      obtain ⟨fs, hr, hrun, hended, hW, hsame⟩ := X0.leave (v := some (.int ((if c7 = p6 then (1 : Int32) else (0 : Int32)) &&& 1))) (fun h => by rw [Bd.returns] at h; cases h)
      refine ⟨_, _, ?_, hrun, hended, _, _, rfl, ?_, ⟨_, rfl⟩, hW, hsame.mono (by decide) (by decide)⟩
      · show Steps p.tables e below (s₁.setTop (mkF m 9 #[.val (.ref a1), .val (.int (7 : Int32)), .val (.int p3), .val (.int p4), .val (.int p5), .val (.int p6), .unset, .unset, .unset] [(.int (p3 + p4)), (.int (7 : Int32))])) _
        refine XS.icmpNo X0.here hx rfl (hb hby d3_9) rfl (flt h5).1 ?_
        show Steps p.tables e below (s₁.setTop (mkF m 12 #[.val (.ref a1), .val (.int (7 : Int32)), .val (.int p3), .val (.int p4), .val (.int p5), .val (.int p6), .unset, .unset, .unset] [])) _
        refine XS.aloadN X0.here hx rfl (hb hby d3_12) rfl rfl ?_
        show Steps p.tables e below (s₁.setTop (mkF m 13 #[.val (.ref a1), .val (.int (7 : Int32)), .val (.int p3), .val (.int p4), .val (.int p5), .val (.int p6), .unset, .unset, .unset] [(.ref a1)])) _
        refine XS.iloadN X0.here hx rfl (hb hby d3_13) rfl ?_
        show Steps p.tables e below (s₁.setTop (mkF m 14 #[.val (.ref a1), .val (.int (7 : Int32)), .val (.int p3), .val (.int p4), .val (.int p5), .val (.int p6), .unset, .unset, .unset] [(.int (7 : Int32)), (.ref a1)])) _
        refine X0.baloadBytes hx (j := (7 : Int32)) (v := (.int c7)) (by rw [e0]; exact Ar11.1) (State.isArrayOf_alike hZ.alike Ar11.2.1) Ar11.2.2 hin11 hat11 (g := (mkF m 14 #[.val (.ref a1), .val (.int (7 : Int32)), .val (.int p3), .val (.int p4), .val (.int p5), .val (.int p6), .unset, .unset, .unset] [(.int (7 : Int32)), (.ref a1)])) rfl rfl (hb hby d3_14) _ ?_
        show Steps p.tables e below (s₁.setTop (mkF m 15 #[.val (.ref a1), .val (.int (7 : Int32)), .val (.int p3), .val (.int p4), .val (.int p5), .val (.int p6), .unset, .unset, .unset] [(.int c7)])) _
        refine XS.iload X0.here hx rfl (hb hby d3_15) rfl ?_
        show Steps p.tables e below (s₁.setTop (mkF m 17 #[.val (.ref a1), .val (.int (7 : Int32)), .val (.int p3), .val (.int p4), .val (.int p5), .val (.int p6), .unset, .unset, .unset] [(.int p6), (.int c7)])) _
        refine st13 _ ?_
        show Steps p.tables e below (s₁.setTop (mkF m 25 #[.val (.ref a1), .val (.int (7 : Int32)), .val (.int p3), .val (.int p4), .val (.int p5), .val (.int p6), .unset, .unset, .unset] [(.int (if c7 = p6 then (1 : Int32) else (0 : Int32)))])) _
        exact retN X0 hx (t := .boolean) Bd.returns (by simp) (hb hby d3_25) hr
      · show Qok7 Z a1 p3 p4 p5 p6 k1 c0 c1 c2 c3 c4 c5 c6 c7 c8 h0 n0 _ s₁.heap _
        rw [e0]
        have hf : fok7 p3 p4 p5 p6 c0 c1 c2 c3 c4 c5 c6 c7 c8 = ((if c7 = p6 then (1 : Int32) else (0 : Int32)) &&& 1) := by simp only [fok7, if_neg h1, if_neg h5]
        exact ⟨by rw [hf], N0, rfl⟩
theorem pn_ok8 : plainName "com/example/stratum/stratum/index/PostingsPutVarIntPinLaw" = true := by first | (simp [plainName, overriddenIn]; done) | decide +kernel
theorem ef_ok8 (m : MethodId) (a1 : Addr) (p3 : Int32) (p4 : Int32) (p5 : Int32) (p6 : Int32) : entryFrame m #[(.ref a1), (.int (8 : Int32)), (.int p3), (.int p4), (.int p5), (.int p6)] 9 = mkF m 0 #[.val (.ref a1), .val (.int (8 : Int32)), .val (.int p3), .val (.int p4), .val (.int p5), .val (.int p6), .unset, .unset, .unset] [] := by first | (simp [entryFrame, mkF, argsToLocals, Value.category]; done) | rfl
def Qok8 (Z : State) (a1 : Addr) (p3 : Int32) (p4 : Int32) (p5 : Int32) (p6 : Int32) (k1 : ClassId) (c0 : Int32) (c1 : Int32) (c2 : Int32) (c3 : Int32) (c4 : Int32) (c5 : Int32) (c6 : Int32) (c7 : Int32) (c8 : Int32) (h0 : Heap) (n0 : Nat) (v : Option Value) (h : Heap) (L : List Loc) : Prop := v = some (.int (fok8 p3 p4 p5 p6 c0 c1 c2 c3 c4 c5 c6 c7 c8)) ∧ Fr n0 L ∧ h = h0
set_option maxRecDepth 65536 in
set_option maxHeartbeats 40000000 in
theorem rmok8 (l : Launch) (Z : State) (a0 : Array Value) (hw : ∀ d ∈ tables_1, d.before a0 Z = true) (ws : List Jvm.Cond) (a1 : Addr) (p3 : Int32) (p4 : Int32) (p5 : Int32) (p6 : Int32) (k1 : ClassId) (c0 : Int32) (c1 : Int32) (c2 : Int32) (c3 : Int32) (c4 : Int32) (c5 : Int32) (c6 : Int32) (c7 : Int32) (c8 : Int32) (h0 : Heap) (n0 : Nat) (Z0 : n0 ≤ h0.size) (A_a1 : Arv Z h0 a1 k1 .byte (9 : Int32) [(.int c0), (.int c1), (.int c2), (.int c3), (.int c4), (.int c5), (.int c6), (.int c7), (.int c8)] (.int (0 : Int32))) :
    MetFree l (⟨"com/example/stratum/stratum/index/PostingsPutVarIntPinLaw", "ok", "([BIIIIB)Z"⟩ : MethodName) (head1 (Jvm.Cond.code (⟨"com/example/stratum/stratum/index/PostingsPutVarIntPinLaw", "ok", "([BIIIIB)Z"⟩ : MethodName) method_4_code 9 (some .boolean) :: ws) ({ frames := 0, cells := 0, slots := 0, locals := 0 } : Room)) (fun a U => a = #[(.ref a1), (.int (8 : Int32)), (.int p3), (.int p4), (.int p5), (.int p6)] ∧ Z.Warmed39 U.vm ∧ U.heap = h0) (fun _ _ _ _ _ => True) (fun _ U o U' => ∃ v L, o = .returned v ∧ Qok8 Z a1 p3 p4 p5 p6 k1 c0 c1 c2 c3 c4 c5 c6 c7 c8 h0 n0 v U'.heap L ∧ FrameEnd U o U' L ({ frames := 0, cells := 0, slots := 0, locals := 0 } : Room).cells ({ frames := 0, cells := 0, slots := 0, locals := 0 } : Room).slots) := by
  refine MetFree.of_bodySF (plainFor_of_name pn_ok8) hisR ?_
  intro p e s m args below meth c s₁ Bd hml0 hP hK
  obtain ⟨rfl, hZ, hh⟩ := hP
  have hx := Bd.exec
  have hby := Bd.bytes
  have hml : c.maxLocals = 9 := hml0
  have hown : s.vm.findClass "com/example/stratum/stratum/index/PostingsPutVarIntPinLaw" = some m.cls := findClass_of_methodNamed Bd.named
  have hnm := (name_of_methodNamed Bd.named Bd.method).1
  have X0 : Stand p l e ({ frames := 0, cells := 0, slots := 0, locals := 0 } : Room) s m #[(.ref a1), (.int (8 : Int32)), (.int p3), (.int p4), (.int p5), (.int p6)] below meth c s₁ [] 0 0 := Stand.of_body Bd
  have e0 : s₁.heap = h0 := by rw [← hh, Bd.state]; rfl
  have N0 := Fr.nil n0
  have pre0 : ∀ t, Steps p.tables e below (s₁.setTop (mkF m 0 #[.val (.ref a1), .val (.int (8 : Int32)), .val (.int p3), .val (.int p4), .val (.int p5), .val (.int p6), .unset, .unset, .unset] [])) t → Steps p.tables e below (s₁.setTop (entryFrame m #[(.ref a1), (.int (8 : Int32)), (.int p3), (.int p4), (.int p5), (.int p6)] 9)) t := fun t k => castTop (ef_ok8 m a1 p3 p4 p5 p6) k
  refine own_step (Q := fun o U' => ∃ v L, o = .returned v ∧ Qok8 Z a1 p3 p4 p5 p6 k1 c0 c1 c2 c3 c4 c5 c6 c7 c8 h0 n0 v U'.heap L ∧ FrameEnd s o U' L ({ frames := 0, cells := 0, slots := 0, locals := 0 } : Room).cells ({ frames := 0, cells := 0, slots := 0, locals := 0 } : Room).slots) pre0 ?_
  refine own_step (B := s₁.setTop (mkF m 2 #[.val (.ref a1), .val (.int (8 : Int32)), .val (.int p3), .val (.int p4), .val (.int p5), .val (.int p6), .unset, .unset, .unset] [(.int p3), (.int (8 : Int32))])) (fun t k => ?_) ?_
  · show Steps p.tables e below (s₁.setTop (mkF m 0 #[.val (.ref a1), .val (.int (8 : Int32)), .val (.int p3), .val (.int p4), .val (.int p5), .val (.int p6), .unset, .unset, .unset] [])) _
    refine XS.iloadN X0.here hx rfl (hb hby d3_0) rfl ?_
    show Steps p.tables e below (s₁.setTop (mkF m 1 #[.val (.ref a1), .val (.int (8 : Int32)), .val (.int p3), .val (.int p4), .val (.int p5), .val (.int p6), .unset, .unset, .unset] [(.int (8 : Int32))])) _
    refine XS.iloadN X0.here hx rfl (hb hby d3_1) rfl ?_
    exact k
  by_cases h1 : (8 : Int32) < p3
  · obtain ⟨cl2, Ar2, -, S2, M2, H2, -⟩ := id A_a1
    have hin2 := inb_of (j := (8 : Int32)) S2 (by decide)
    have hat2 := H2.at hin2 (v := (.int c8)) (rfl)
    have st4 : ∀ t, Steps p.tables e below (s₁.setTop (mkF m 25 #[.val (.ref a1), .val (.int (8 : Int32)), .val (.int p3), .val (.int p4), .val (.int p5), .val (.int p6), .unset, .unset, .unset] [(.int (if c8 = p6 then (1 : Int32) else (0 : Int32)))])) t → Steps p.tables e below (s₁.setTop (mkF m 17 #[.val (.ref a1), .val (.int (8 : Int32)), .val (.int p3), .val (.int p4), .val (.int p5), .val (.int p6), .unset, .unset, .unset] [(.int p6), (.int c8)])) t := by
      intro t k
      by_cases h3 : c8 = p6
      · rw [show (if c8 = p6 then (1 : Int32) else (0 : Int32)) = (1 : Int32) from if_pos h3] at k
        show Steps p.tables e below (s₁.setTop (mkF m 17 #[.val (.ref a1), .val (.int (8 : Int32)), .val (.int p3), .val (.int p4), .val (.int p5), .val (.int p6), .unset, .unset, .unset] [(.int p6), (.int c8)])) _
        refine XS.icmpNo X0.here hx rfl (hb hby d3_17) rfl (teq h3).2 ?_
        show Steps p.tables e below (s₁.setTop (mkF m 20 #[.val (.ref a1), .val (.int (8 : Int32)), .val (.int p3), .val (.int p4), .val (.int p5), .val (.int p6), .unset, .unset, .unset] [])) _
        refine XS.iconst X0.here hx rfl (hb hby d3_20) ?_
        show Steps p.tables e below (s₁.setTop (mkF m 21 #[.val (.ref a1), .val (.int (8 : Int32)), .val (.int p3), .val (.int p4), .val (.int p5), .val (.int p6), .unset, .unset, .unset] [(.int (1 : Int32))])) _
        refine XS.goto X0.here hx rfl (pc0 := 21) (pc' := 25) rfl (hb hby d3_21) (by decide) (by decide) ?_
        exact k
      · rw [show (if c8 = p6 then (1 : Int32) else (0 : Int32)) = (0 : Int32) from if_neg h3] at k
        show Steps p.tables e below (s₁.setTop (mkF m 17 #[.val (.ref a1), .val (.int (8 : Int32)), .val (.int p3), .val (.int p4), .val (.int p5), .val (.int p6), .unset, .unset, .unset] [(.int p6), (.int c8)])) _
        refine XS.icmpYes X0.here hx rfl (pc0 := 17) (pc' := 24) rfl (hb hby d3_17) rfl (feq h3).2 (by decide) (by decide) ?_
        show Steps p.tables e below (s₁.setTop (mkF m 24 #[.val (.ref a1), .val (.int (8 : Int32)), .val (.int p3), .val (.int p4), .val (.int p5), .val (.int p6), .unset, .unset, .unset] [])) _
        refine XS.iconst X0.here hx rfl (hb hby d3_24) ?_
        exact k
    obtain ⟨fs, hr, hrun, hended, hW, hsame⟩ := X0.leave (v := some (.int ((if c8 = p6 then (1 : Int32) else (0 : Int32)) &&& 1))) (fun h => by rw [Bd.returns] at h; cases h)
    refine ⟨_, _, ?_, hrun, hended, _, _, rfl, ?_, ⟨_, rfl⟩, hW, hsame.mono (by decide) (by decide)⟩
    · show Steps p.tables e below (s₁.setTop (mkF m 2 #[.val (.ref a1), .val (.int (8 : Int32)), .val (.int p3), .val (.int p4), .val (.int p5), .val (.int p6), .unset, .unset, .unset] [(.int p3), (.int (8 : Int32))])) _
      refine XS.icmpYes X0.here hx rfl (pc0 := 2) (pc' := 12) rfl (hb hby d3_2) rfl (tlt h1).1 (by decide) (by decide) ?_
      show Steps p.tables e below (s₁.setTop (mkF m 12 #[.val (.ref a1), .val (.int (8 : Int32)), .val (.int p3), .val (.int p4), .val (.int p5), .val (.int p6), .unset, .unset, .unset] [])) _
      refine XS.aloadN X0.here hx rfl (hb hby d3_12) rfl rfl ?_
      show Steps p.tables e below (s₁.setTop (mkF m 13 #[.val (.ref a1), .val (.int (8 : Int32)), .val (.int p3), .val (.int p4), .val (.int p5), .val (.int p6), .unset, .unset, .unset] [(.ref a1)])) _
      refine XS.iloadN X0.here hx rfl (hb hby d3_13) rfl ?_
      show Steps p.tables e below (s₁.setTop (mkF m 14 #[.val (.ref a1), .val (.int (8 : Int32)), .val (.int p3), .val (.int p4), .val (.int p5), .val (.int p6), .unset, .unset, .unset] [(.int (8 : Int32)), (.ref a1)])) _
      refine X0.baloadBytes hx (j := (8 : Int32)) (v := (.int c8)) (by rw [e0]; exact Ar2.1) (State.isArrayOf_alike hZ.alike Ar2.2.1) Ar2.2.2 hin2 hat2 (g := (mkF m 14 #[.val (.ref a1), .val (.int (8 : Int32)), .val (.int p3), .val (.int p4), .val (.int p5), .val (.int p6), .unset, .unset, .unset] [(.int (8 : Int32)), (.ref a1)])) rfl rfl (hb hby d3_14) _ ?_
      show Steps p.tables e below (s₁.setTop (mkF m 15 #[.val (.ref a1), .val (.int (8 : Int32)), .val (.int p3), .val (.int p4), .val (.int p5), .val (.int p6), .unset, .unset, .unset] [(.int c8)])) _
      refine XS.iload X0.here hx rfl (hb hby d3_15) rfl ?_
      show Steps p.tables e below (s₁.setTop (mkF m 17 #[.val (.ref a1), .val (.int (8 : Int32)), .val (.int p3), .val (.int p4), .val (.int p5), .val (.int p6), .unset, .unset, .unset] [(.int p6), (.int c8)])) _
      refine st4 _ ?_
      show Steps p.tables e below (s₁.setTop (mkF m 25 #[.val (.ref a1), .val (.int (8 : Int32)), .val (.int p3), .val (.int p4), .val (.int p5), .val (.int p6), .unset, .unset, .unset] [(.int (if c8 = p6 then (1 : Int32) else (0 : Int32)))])) _
      exact retN X0 hx (t := .boolean) Bd.returns (by simp) (hb hby d3_25) hr
    · show Qok8 Z a1 p3 p4 p5 p6 k1 c0 c1 c2 c3 c4 c5 c6 c7 c8 h0 n0 _ s₁.heap _
      rw [e0]
      have hf : fok8 p3 p4 p5 p6 c0 c1 c2 c3 c4 c5 c6 c7 c8 = ((if c8 = p6 then (1 : Int32) else (0 : Int32)) &&& 1) := by simp only [fok8, if_pos h1]
      exact ⟨by rw [hf], N0, rfl⟩
  · refine own_step (B := s₁.setTop (mkF m 9 #[.val (.ref a1), .val (.int (8 : Int32)), .val (.int p3), .val (.int p4), .val (.int p5), .val (.int p6), .unset, .unset, .unset] [(.int (p3 + p4)), (.int (8 : Int32))])) (fun t k => ?_) ?_
    · show Steps p.tables e below (s₁.setTop (mkF m 2 #[.val (.ref a1), .val (.int (8 : Int32)), .val (.int p3), .val (.int p4), .val (.int p5), .val (.int p6), .unset, .unset, .unset] [(.int p3), (.int (8 : Int32))])) _
      refine XS.icmpNo X0.here hx rfl (hb hby d3_2) rfl (flt h1).1 ?_
      show Steps p.tables e below (s₁.setTop (mkF m 5 #[.val (.ref a1), .val (.int (8 : Int32)), .val (.int p3), .val (.int p4), .val (.int p5), .val (.int p6), .unset, .unset, .unset] [])) _
      refine XS.iloadN X0.here hx rfl (hb hby d3_5) rfl ?_
      show Steps p.tables e below (s₁.setTop (mkF m 6 #[.val (.ref a1), .val (.int (8 : Int32)), .val (.int p3), .val (.int p4), .val (.int p5), .val (.int p6), .unset, .unset, .unset] [(.int (8 : Int32))])) _
      refine XS.iloadN X0.here hx rfl (hb hby d3_6) rfl ?_
      show Steps p.tables e below (s₁.setTop (mkF m 7 #[.val (.ref a1), .val (.int (8 : Int32)), .val (.int p3), .val (.int p4), .val (.int p5), .val (.int p6), .unset, .unset, .unset] [(.int p3), (.int (8 : Int32))])) _
      refine XS.iloadN X0.here hx rfl (hb hby d3_7) rfl ?_
      show Steps p.tables e below (s₁.setTop (mkF m 8 #[.val (.ref a1), .val (.int (8 : Int32)), .val (.int p3), .val (.int p4), .val (.int p5), .val (.int p6), .unset, .unset, .unset] [(.int p4), (.int p3), (.int (8 : Int32))])) _
      refine XS.iadd X0.here hx rfl (hb hby d3_8) rfl ?_
      exact k
    by_cases h5 : (8 : Int32) < (p3 + p4)
    · have st7 : ∀ t, Steps p.tables e below (s₁.setTop (mkF m 63 #[.val (.ref a1), .val (.int (8 : Int32)), .val (.int p3), .val (.int p4), .val (.int p5), .val (.int p6), .val (.int ((8 : Int32) - p3)), .val (.int ((XT.ushr p5 ((7 : Int32) * ((8 : Int32) - p3))) &&& (127 : Int32))), .unset] [(.int (fok8_0 p3 p4 p5 p6 c0 c1 c2 c3 c4 c5 c6 c7 c8))])) t → Steps p.tables e below (s₁.setTop (mkF m 49 #[.val (.ref a1), .val (.int (8 : Int32)), .val (.int p3), .val (.int p4), .val (.int p5), .val (.int p6), .val (.int ((8 : Int32) - p3)), .val (.int ((XT.ushr p5 ((7 : Int32) * ((8 : Int32) - p3))) &&& (127 : Int32))), .unset] [(.int (p4 - (1 : Int32))), (.int ((8 : Int32) - p3))])) t := by
        intro t k
        by_cases h6 : ((8 : Int32) - p3) < (p4 - (1 : Int32))
        · rw [show (fok8_0 p3 p4 p5 p6 c0 c1 c2 c3 c4 c5 c6 c7 c8) = (((XT.ushr p5 ((7 : Int32) * ((8 : Int32) - p3))) &&& (127 : Int32)) ||| (128 : Int32)) from if_pos h6] at k
          show Steps p.tables e below (s₁.setTop (mkF m 49 #[.val (.ref a1), .val (.int (8 : Int32)), .val (.int p3), .val (.int p4), .val (.int p5), .val (.int p6), .val (.int ((8 : Int32) - p3)), .val (.int ((XT.ushr p5 ((7 : Int32) * ((8 : Int32) - p3))) &&& (127 : Int32))), .unset] [(.int (p4 - (1 : Int32))), (.int ((8 : Int32) - p3))])) _
          refine XS.icmpNo X0.here hx rfl (hb hby d3_49) rfl (tlt h6).2.1 ?_
          show Steps p.tables e below (s₁.setTop (mkF m 52 #[.val (.ref a1), .val (.int (8 : Int32)), .val (.int p3), .val (.int p4), .val (.int p5), .val (.int p6), .val (.int ((8 : Int32) - p3)), .val (.int ((XT.ushr p5 ((7 : Int32) * ((8 : Int32) - p3))) &&& (127 : Int32))), .unset] [])) _
          refine XS.iload X0.here hx rfl (hb hby d3_52) rfl ?_
          show Steps p.tables e below (s₁.setTop (mkF m 54 #[.val (.ref a1), .val (.int (8 : Int32)), .val (.int p3), .val (.int p4), .val (.int p5), .val (.int p6), .val (.int ((8 : Int32) - p3)), .val (.int ((XT.ushr p5 ((7 : Int32) * ((8 : Int32) - p3))) &&& (127 : Int32))), .unset] [(.int ((XT.ushr p5 ((7 : Int32) * ((8 : Int32) - p3))) &&& (127 : Int32)))])) _
          refine XS.sipush X0.here hx rfl (hb hby d3_54) ?_
          show Steps p.tables e below (s₁.setTop (mkF m 57 #[.val (.ref a1), .val (.int (8 : Int32)), .val (.int p3), .val (.int p4), .val (.int p5), .val (.int p6), .val (.int ((8 : Int32) - p3)), .val (.int ((XT.ushr p5 ((7 : Int32) * ((8 : Int32) - p3))) &&& (127 : Int32))), .unset] [(.int (128 : Int32)), (.int ((XT.ushr p5 ((7 : Int32) * ((8 : Int32) - p3))) &&& (127 : Int32)))])) _
          refine XT.ior X0.here hx rfl (hb hby d3_57) rfl ?_
          show Steps p.tables e below (s₁.setTop (mkF m 58 #[.val (.ref a1), .val (.int (8 : Int32)), .val (.int p3), .val (.int p4), .val (.int p5), .val (.int p6), .val (.int ((8 : Int32) - p3)), .val (.int ((XT.ushr p5 ((7 : Int32) * ((8 : Int32) - p3))) &&& (127 : Int32))), .unset] [(.int (((XT.ushr p5 ((7 : Int32) * ((8 : Int32) - p3))) &&& (127 : Int32)) ||| (128 : Int32)))])) _
          refine XS.goto X0.here hx rfl (pc0 := 58) (pc' := 63) rfl (hb hby d3_58) (by decide) (by decide) ?_
          exact k
        · rw [show (fok8_0 p3 p4 p5 p6 c0 c1 c2 c3 c4 c5 c6 c7 c8) = ((XT.ushr p5 ((7 : Int32) * ((8 : Int32) - p3))) &&& (127 : Int32)) from if_neg h6] at k
          show Steps p.tables e below (s₁.setTop (mkF m 49 #[.val (.ref a1), .val (.int (8 : Int32)), .val (.int p3), .val (.int p4), .val (.int p5), .val (.int p6), .val (.int ((8 : Int32) - p3)), .val (.int ((XT.ushr p5 ((7 : Int32) * ((8 : Int32) - p3))) &&& (127 : Int32))), .unset] [(.int (p4 - (1 : Int32))), (.int ((8 : Int32) - p3))])) _
          refine XS.icmpYes X0.here hx rfl (pc0 := 49) (pc' := 61) rfl (hb hby d3_49) rfl (flt h6).2.1 (by decide) (by decide) ?_
          show Steps p.tables e below (s₁.setTop (mkF m 61 #[.val (.ref a1), .val (.int (8 : Int32)), .val (.int p3), .val (.int p4), .val (.int p5), .val (.int p6), .val (.int ((8 : Int32) - p3)), .val (.int ((XT.ushr p5 ((7 : Int32) * ((8 : Int32) - p3))) &&& (127 : Int32))), .unset] [])) _
          refine XS.iload X0.here hx rfl (hb hby d3_61) rfl ?_
          exact k
      obtain ⟨cl8, Ar8, -, S8, M8, H8, -⟩ := id A_a1
      have hin8 := inb_of (j := (8 : Int32)) S8 (by decide)
      have hat8 := H8.at hin8 (v := (.int c8)) (rfl)
      have st10 : ∀ t, Steps p.tables e below (s₁.setTop (mkF m 79 #[.val (.ref a1), .val (.int (8 : Int32)), .val (.int p3), .val (.int p4), .val (.int p5), .val (.int p6), .val (.int ((8 : Int32) - p3)), .val (.int ((XT.ushr p5 ((7 : Int32) * ((8 : Int32) - p3))) &&& (127 : Int32))), .val (.int (fok8_0 p3 p4 p5 p6 c0 c1 c2 c3 c4 c5 c6 c7 c8))] [(.int (fok8_1 p3 p4 p5 p6 c0 c1 c2 c3 c4 c5 c6 c7 c8))])) t → Steps p.tables e below (s₁.setTop (mkF m 71 #[.val (.ref a1), .val (.int (8 : Int32)), .val (.int p3), .val (.int p4), .val (.int p5), .val (.int p6), .val (.int ((8 : Int32) - p3)), .val (.int ((XT.ushr p5 ((7 : Int32) * ((8 : Int32) - p3))) &&& (127 : Int32))), .val (.int (fok8_0 p3 p4 p5 p6 c0 c1 c2 c3 c4 c5 c6 c7 c8))] [(.int (fok8_0 p3 p4 p5 p6 c0 c1 c2 c3 c4 c5 c6 c7 c8).toInt8.toInt32), (.int c8)])) t := by
        intro t k
        by_cases h9 : c8 = (fok8_0 p3 p4 p5 p6 c0 c1 c2 c3 c4 c5 c6 c7 c8).toInt8.toInt32
        · rw [show (fok8_1 p3 p4 p5 p6 c0 c1 c2 c3 c4 c5 c6 c7 c8) = (1 : Int32) from if_pos h9] at k
          show Steps p.tables e below (s₁.setTop (mkF m 71 #[.val (.ref a1), .val (.int (8 : Int32)), .val (.int p3), .val (.int p4), .val (.int p5), .val (.int p6), .val (.int ((8 : Int32) - p3)), .val (.int ((XT.ushr p5 ((7 : Int32) * ((8 : Int32) - p3))) &&& (127 : Int32))), .val (.int (fok8_0 p3 p4 p5 p6 c0 c1 c2 c3 c4 c5 c6 c7 c8))] [(.int (fok8_0 p3 p4 p5 p6 c0 c1 c2 c3 c4 c5 c6 c7 c8).toInt8.toInt32), (.int c8)])) _
          refine XS.icmpNo X0.here hx rfl (hb hby d3_71) rfl (teq h9).2 ?_
          show Steps p.tables e below (s₁.setTop (mkF m 74 #[.val (.ref a1), .val (.int (8 : Int32)), .val (.int p3), .val (.int p4), .val (.int p5), .val (.int p6), .val (.int ((8 : Int32) - p3)), .val (.int ((XT.ushr p5 ((7 : Int32) * ((8 : Int32) - p3))) &&& (127 : Int32))), .val (.int (fok8_0 p3 p4 p5 p6 c0 c1 c2 c3 c4 c5 c6 c7 c8))] [])) _
          refine XS.iconst X0.here hx rfl (hb hby d3_74) ?_
          show Steps p.tables e below (s₁.setTop (mkF m 75 #[.val (.ref a1), .val (.int (8 : Int32)), .val (.int p3), .val (.int p4), .val (.int p5), .val (.int p6), .val (.int ((8 : Int32) - p3)), .val (.int ((XT.ushr p5 ((7 : Int32) * ((8 : Int32) - p3))) &&& (127 : Int32))), .val (.int (fok8_0 p3 p4 p5 p6 c0 c1 c2 c3 c4 c5 c6 c7 c8))] [(.int (1 : Int32))])) _
          refine XS.goto X0.here hx rfl (pc0 := 75) (pc' := 79) rfl (hb hby d3_75) (by decide) (by decide) ?_
          exact k
        · rw [show (fok8_1 p3 p4 p5 p6 c0 c1 c2 c3 c4 c5 c6 c7 c8) = (0 : Int32) from if_neg h9] at k
          show Steps p.tables e below (s₁.setTop (mkF m 71 #[.val (.ref a1), .val (.int (8 : Int32)), .val (.int p3), .val (.int p4), .val (.int p5), .val (.int p6), .val (.int ((8 : Int32) - p3)), .val (.int ((XT.ushr p5 ((7 : Int32) * ((8 : Int32) - p3))) &&& (127 : Int32))), .val (.int (fok8_0 p3 p4 p5 p6 c0 c1 c2 c3 c4 c5 c6 c7 c8))] [(.int (fok8_0 p3 p4 p5 p6 c0 c1 c2 c3 c4 c5 c6 c7 c8).toInt8.toInt32), (.int c8)])) _
          refine XS.icmpYes X0.here hx rfl (pc0 := 71) (pc' := 78) rfl (hb hby d3_71) rfl (feq h9).2 (by decide) (by decide) ?_
          show Steps p.tables e below (s₁.setTop (mkF m 78 #[.val (.ref a1), .val (.int (8 : Int32)), .val (.int p3), .val (.int p4), .val (.int p5), .val (.int p6), .val (.int ((8 : Int32) - p3)), .val (.int ((XT.ushr p5 ((7 : Int32) * ((8 : Int32) - p3))) &&& (127 : Int32))), .val (.int (fok8_0 p3 p4 p5 p6 c0 c1 c2 c3 c4 c5 c6 c7 c8))] [])) _
          refine XS.iconst X0.here hx rfl (hb hby d3_78) ?_
          exact k
      obtain ⟨fs, hr, hrun, hended, hW, hsame⟩ := X0.leave (v := some (.int ((fok8_1 p3 p4 p5 p6 c0 c1 c2 c3 c4 c5 c6 c7 c8) &&& 1))) (fun h => by rw [Bd.returns] at h; cases h)
      refine ⟨_, _, ?_, hrun, hended, _, _, rfl, ?_, ⟨_, rfl⟩, hW, hsame.mono (by decide) (by decide)⟩
      · show Steps p.tables e below (s₁.setTop (mkF m 9 #[.val (.ref a1), .val (.int (8 : Int32)), .val (.int p3), .val (.int p4), .val (.int p5), .val (.int p6), .unset, .unset, .unset] [(.int (p3 + p4)), (.int (8 : Int32))])) _
        refine XS.icmpYes X0.here hx rfl (pc0 := 9) (pc' := 26) rfl (hb hby d3_9) rfl (tlt h5).1 (by decide) (by decide) ?_
        show Steps p.tables e below (s₁.setTop (mkF m 26 #[.val (.ref a1), .val (.int (8 : Int32)), .val (.int p3), .val (.int p4), .val (.int p5), .val (.int p6), .unset, .unset, .unset] [])) _
        refine XS.iloadN X0.here hx rfl (hb hby d3_26) rfl ?_
        show Steps p.tables e below (s₁.setTop (mkF m 27 #[.val (.ref a1), .val (.int (8 : Int32)), .val (.int p3), .val (.int p4), .val (.int p5), .val (.int p6), .unset, .unset, .unset] [(.int (8 : Int32))])) _
        refine XS.iloadN X0.here hx rfl (hb hby d3_27) rfl ?_
        show Steps p.tables e below (s₁.setTop (mkF m 28 #[.val (.ref a1), .val (.int (8 : Int32)), .val (.int p3), .val (.int p4), .val (.int p5), .val (.int p6), .unset, .unset, .unset] [(.int p3), (.int (8 : Int32))])) _
        refine XS.isub X0.here hx rfl (hb hby d3_28) rfl ?_
        show Steps p.tables e below (s₁.setTop (mkF m 29 #[.val (.ref a1), .val (.int (8 : Int32)), .val (.int p3), .val (.int p4), .val (.int p5), .val (.int p6), .unset, .unset, .unset] [(.int ((8 : Int32) - p3))])) _
        refine XS.istore X0.here hx rfl (hb hby d3_29) rfl (l' := #[.val (.ref a1), .val (.int (8 : Int32)), .val (.int p3), .val (.int p4), .val (.int p5), .val (.int p6), .val (.int ((8 : Int32) - p3)), .unset, .unset]) rfl ?_
        show Steps p.tables e below (s₁.setTop (mkF m 31 #[.val (.ref a1), .val (.int (8 : Int32)), .val (.int p3), .val (.int p4), .val (.int p5), .val (.int p6), .val (.int ((8 : Int32) - p3)), .unset, .unset] [])) _
        refine XS.iload X0.here hx rfl (hb hby d3_31) rfl ?_
        show Steps p.tables e below (s₁.setTop (mkF m 33 #[.val (.ref a1), .val (.int (8 : Int32)), .val (.int p3), .val (.int p4), .val (.int p5), .val (.int p6), .val (.int ((8 : Int32) - p3)), .unset, .unset] [(.int p5)])) _
        refine XS.bipush X0.here hx rfl (hb hby d3_33) ?_
        show Steps p.tables e below (s₁.setTop (mkF m 35 #[.val (.ref a1), .val (.int (8 : Int32)), .val (.int p3), .val (.int p4), .val (.int p5), .val (.int p6), .val (.int ((8 : Int32) - p3)), .unset, .unset] [(.int (7 : Int32)), (.int p5)])) _
        refine XS.iload X0.here hx rfl (hb hby d3_35) rfl ?_
        show Steps p.tables e below (s₁.setTop (mkF m 37 #[.val (.ref a1), .val (.int (8 : Int32)), .val (.int p3), .val (.int p4), .val (.int p5), .val (.int p6), .val (.int ((8 : Int32) - p3)), .unset, .unset] [(.int ((8 : Int32) - p3)), (.int (7 : Int32)), (.int p5)])) _
        refine XS.imul X0.here hx rfl (hb hby d3_37) rfl ?_
        show Steps p.tables e below (s₁.setTop (mkF m 38 #[.val (.ref a1), .val (.int (8 : Int32)), .val (.int p3), .val (.int p4), .val (.int p5), .val (.int p6), .val (.int ((8 : Int32) - p3)), .unset, .unset] [(.int ((7 : Int32) * ((8 : Int32) - p3))), (.int p5)])) _
        refine XT.iushr X0.here hx rfl (hb hby d3_38) rfl ?_
        show Steps p.tables e below (s₁.setTop (mkF m 39 #[.val (.ref a1), .val (.int (8 : Int32)), .val (.int p3), .val (.int p4), .val (.int p5), .val (.int p6), .val (.int ((8 : Int32) - p3)), .unset, .unset] [(.int (XT.ushr p5 ((7 : Int32) * ((8 : Int32) - p3))))])) _
        refine XS.bipush X0.here hx rfl (hb hby d3_39) ?_
        show Steps p.tables e below (s₁.setTop (mkF m 41 #[.val (.ref a1), .val (.int (8 : Int32)), .val (.int p3), .val (.int p4), .val (.int p5), .val (.int p6), .val (.int ((8 : Int32) - p3)), .unset, .unset] [(.int (127 : Int32)), (.int (XT.ushr p5 ((7 : Int32) * ((8 : Int32) - p3))))])) _
        refine XS.iand X0.here hx rfl (hb hby d3_41) rfl ?_
        show Steps p.tables e below (s₁.setTop (mkF m 42 #[.val (.ref a1), .val (.int (8 : Int32)), .val (.int p3), .val (.int p4), .val (.int p5), .val (.int p6), .val (.int ((8 : Int32) - p3)), .unset, .unset] [(.int ((XT.ushr p5 ((7 : Int32) * ((8 : Int32) - p3))) &&& (127 : Int32)))])) _
        refine XS.istore X0.here hx rfl (hb hby d3_42) rfl (l' := #[.val (.ref a1), .val (.int (8 : Int32)), .val (.int p3), .val (.int p4), .val (.int p5), .val (.int p6), .val (.int ((8 : Int32) - p3)), .val (.int ((XT.ushr p5 ((7 : Int32) * ((8 : Int32) - p3))) &&& (127 : Int32))), .unset]) rfl ?_
        show Steps p.tables e below (s₁.setTop (mkF m 44 #[.val (.ref a1), .val (.int (8 : Int32)), .val (.int p3), .val (.int p4), .val (.int p5), .val (.int p6), .val (.int ((8 : Int32) - p3)), .val (.int ((XT.ushr p5 ((7 : Int32) * ((8 : Int32) - p3))) &&& (127 : Int32))), .unset] [])) _
        refine XS.iload X0.here hx rfl (hb hby d3_44) rfl ?_
        show Steps p.tables e below (s₁.setTop (mkF m 46 #[.val (.ref a1), .val (.int (8 : Int32)), .val (.int p3), .val (.int p4), .val (.int p5), .val (.int p6), .val (.int ((8 : Int32) - p3)), .val (.int ((XT.ushr p5 ((7 : Int32) * ((8 : Int32) - p3))) &&& (127 : Int32))), .unset] [(.int ((8 : Int32) - p3))])) _
        refine XS.iloadN X0.here hx rfl (hb hby d3_46) rfl ?_
        show Steps p.tables e below (s₁.setTop (mkF m 47 #[.val (.ref a1), .val (.int (8 : Int32)), .val (.int p3), .val (.int p4), .val (.int p5), .val (.int p6), .val (.int ((8 : Int32) - p3)), .val (.int ((XT.ushr p5 ((7 : Int32) * ((8 : Int32) - p3))) &&& (127 : Int32))), .unset] [(.int p4), (.int ((8 : Int32) - p3))])) _
        refine XS.iconst X0.here hx rfl (hb hby d3_47) ?_
        show Steps p.tables e below (s₁.setTop (mkF m 48 #[.val (.ref a1), .val (.int (8 : Int32)), .val (.int p3), .val (.int p4), .val (.int p5), .val (.int p6), .val (.int ((8 : Int32) - p3)), .val (.int ((XT.ushr p5 ((7 : Int32) * ((8 : Int32) - p3))) &&& (127 : Int32))), .unset] [(.int (1 : Int32)), (.int p4), (.int ((8 : Int32) - p3))])) _
        refine XS.isub X0.here hx rfl (hb hby d3_48) rfl ?_
        show Steps p.tables e below (s₁.setTop (mkF m 49 #[.val (.ref a1), .val (.int (8 : Int32)), .val (.int p3), .val (.int p4), .val (.int p5), .val (.int p6), .val (.int ((8 : Int32) - p3)), .val (.int ((XT.ushr p5 ((7 : Int32) * ((8 : Int32) - p3))) &&& (127 : Int32))), .unset] [(.int (p4 - (1 : Int32))), (.int ((8 : Int32) - p3))])) _
        refine st7 _ ?_
        show Steps p.tables e below (s₁.setTop (mkF m 63 #[.val (.ref a1), .val (.int (8 : Int32)), .val (.int p3), .val (.int p4), .val (.int p5), .val (.int p6), .val (.int ((8 : Int32) - p3)), .val (.int ((XT.ushr p5 ((7 : Int32) * ((8 : Int32) - p3))) &&& (127 : Int32))), .unset] [(.int (fok8_0 p3 p4 p5 p6 c0 c1 c2 c3 c4 c5 c6 c7 c8))])) _
        refine XS.istore X0.here hx rfl (hb hby d3_63) rfl (l' := #[.val (.ref a1), .val (.int (8 : Int32)), .val (.int p3), .val (.int p4), .val (.int p5), .val (.int p6), .val (.int ((8 : Int32) - p3)), .val (.int ((XT.ushr p5 ((7 : Int32) * ((8 : Int32) - p3))) &&& (127 : Int32))), .val (.int (fok8_0 p3 p4 p5 p6 c0 c1 c2 c3 c4 c5 c6 c7 c8))]) rfl ?_
        show Steps p.tables e below (s₁.setTop (mkF m 65 #[.val (.ref a1), .val (.int (8 : Int32)), .val (.int p3), .val (.int p4), .val (.int p5), .val (.int p6), .val (.int ((8 : Int32) - p3)), .val (.int ((XT.ushr p5 ((7 : Int32) * ((8 : Int32) - p3))) &&& (127 : Int32))), .val (.int (fok8_0 p3 p4 p5 p6 c0 c1 c2 c3 c4 c5 c6 c7 c8))] [])) _
        refine XS.aloadN X0.here hx rfl (hb hby d3_65) rfl rfl ?_
        show Steps p.tables e below (s₁.setTop (mkF m 66 #[.val (.ref a1), .val (.int (8 : Int32)), .val (.int p3), .val (.int p4), .val (.int p5), .val (.int p6), .val (.int ((8 : Int32) - p3)), .val (.int ((XT.ushr p5 ((7 : Int32) * ((8 : Int32) - p3))) &&& (127 : Int32))), .val (.int (fok8_0 p3 p4 p5 p6 c0 c1 c2 c3 c4 c5 c6 c7 c8))] [(.ref a1)])) _
        refine XS.iloadN X0.here hx rfl (hb hby d3_66) rfl ?_
        show Steps p.tables e below (s₁.setTop (mkF m 67 #[.val (.ref a1), .val (.int (8 : Int32)), .val (.int p3), .val (.int p4), .val (.int p5), .val (.int p6), .val (.int ((8 : Int32) - p3)), .val (.int ((XT.ushr p5 ((7 : Int32) * ((8 : Int32) - p3))) &&& (127 : Int32))), .val (.int (fok8_0 p3 p4 p5 p6 c0 c1 c2 c3 c4 c5 c6 c7 c8))] [(.int (8 : Int32)), (.ref a1)])) _
        refine X0.baloadBytes hx (j := (8 : Int32)) (v := (.int c8)) (by rw [e0]; exact Ar8.1) (State.isArrayOf_alike hZ.alike Ar8.2.1) Ar8.2.2 hin8 hat8 (g := (mkF m 67 #[.val (.ref a1), .val (.int (8 : Int32)), .val (.int p3), .val (.int p4), .val (.int p5), .val (.int p6), .val (.int ((8 : Int32) - p3)), .val (.int ((XT.ushr p5 ((7 : Int32) * ((8 : Int32) - p3))) &&& (127 : Int32))), .val (.int (fok8_0 p3 p4 p5 p6 c0 c1 c2 c3 c4 c5 c6 c7 c8))] [(.int (8 : Int32)), (.ref a1)])) rfl rfl (hb hby d3_67) _ ?_
        show Steps p.tables e below (s₁.setTop (mkF m 68 #[.val (.ref a1), .val (.int (8 : Int32)), .val (.int p3), .val (.int p4), .val (.int p5), .val (.int p6), .val (.int ((8 : Int32) - p3)), .val (.int ((XT.ushr p5 ((7 : Int32) * ((8 : Int32) - p3))) &&& (127 : Int32))), .val (.int (fok8_0 p3 p4 p5 p6 c0 c1 c2 c3 c4 c5 c6 c7 c8))] [(.int c8)])) _
        refine XS.iload X0.here hx rfl (hb hby d3_68) rfl ?_
        show Steps p.tables e below (s₁.setTop (mkF m 70 #[.val (.ref a1), .val (.int (8 : Int32)), .val (.int p3), .val (.int p4), .val (.int p5), .val (.int p6), .val (.int ((8 : Int32) - p3)), .val (.int ((XT.ushr p5 ((7 : Int32) * ((8 : Int32) - p3))) &&& (127 : Int32))), .val (.int (fok8_0 p3 p4 p5 p6 c0 c1 c2 c3 c4 c5 c6 c7 c8))] [(.int (fok8_0 p3 p4 p5 p6 c0 c1 c2 c3 c4 c5 c6 c7 c8)), (.int c8)])) _
        refine XT.i2b X0.here hx rfl (hb hby d3_70) rfl ?_
        show Steps p.tables e below (s₁.setTop (mkF m 71 #[.val (.ref a1), .val (.int (8 : Int32)), .val (.int p3), .val (.int p4), .val (.int p5), .val (.int p6), .val (.int ((8 : Int32) - p3)), .val (.int ((XT.ushr p5 ((7 : Int32) * ((8 : Int32) - p3))) &&& (127 : Int32))), .val (.int (fok8_0 p3 p4 p5 p6 c0 c1 c2 c3 c4 c5 c6 c7 c8))] [(.int (fok8_0 p3 p4 p5 p6 c0 c1 c2 c3 c4 c5 c6 c7 c8).toInt8.toInt32), (.int c8)])) _
        refine st10 _ ?_
        show Steps p.tables e below (s₁.setTop (mkF m 79 #[.val (.ref a1), .val (.int (8 : Int32)), .val (.int p3), .val (.int p4), .val (.int p5), .val (.int p6), .val (.int ((8 : Int32) - p3)), .val (.int ((XT.ushr p5 ((7 : Int32) * ((8 : Int32) - p3))) &&& (127 : Int32))), .val (.int (fok8_0 p3 p4 p5 p6 c0 c1 c2 c3 c4 c5 c6 c7 c8))] [(.int (fok8_1 p3 p4 p5 p6 c0 c1 c2 c3 c4 c5 c6 c7 c8))])) _
        exact retN X0 hx (t := .boolean) Bd.returns (by simp) (hb hby d3_79) hr
      · show Qok8 Z a1 p3 p4 p5 p6 k1 c0 c1 c2 c3 c4 c5 c6 c7 c8 h0 n0 _ s₁.heap _
        rw [e0]
        have hf : fok8 p3 p4 p5 p6 c0 c1 c2 c3 c4 c5 c6 c7 c8 = ((fok8_1 p3 p4 p5 p6 c0 c1 c2 c3 c4 c5 c6 c7 c8) &&& 1) := by simp only [fok8, if_neg h1, if_pos h5]
        exact ⟨by rw [hf], N0, rfl⟩
    · obtain ⟨cl11, Ar11, -, S11, M11, H11, -⟩ := id A_a1
      have hin11 := inb_of (j := (8 : Int32)) S11 (by decide)
      have hat11 := H11.at hin11 (v := (.int c8)) (rfl)
      have st13 : ∀ t, Steps p.tables e below (s₁.setTop (mkF m 25 #[.val (.ref a1), .val (.int (8 : Int32)), .val (.int p3), .val (.int p4), .val (.int p5), .val (.int p6), .unset, .unset, .unset] [(.int (if c8 = p6 then (1 : Int32) else (0 : Int32)))])) t → Steps p.tables e below (s₁.setTop (mkF m 17 #[.val (.ref a1), .val (.int (8 : Int32)), .val (.int p3), .val (.int p4), .val (.int p5), .val (.int p6), .unset, .unset, .unset] [(.int p6), (.int c8)])) t := by
        intro t k
        by_cases h12 : c8 = p6
        · rw [show (if c8 = p6 then (1 : Int32) else (0 : Int32)) = (1 : Int32) from if_pos h12] at k
          show Steps p.tables e below (s₁.setTop (mkF m 17 #[.val (.ref a1), .val (.int (8 : Int32)), .val (.int p3), .val (.int p4), .val (.int p5), .val (.int p6), .unset, .unset, .unset] [(.int p6), (.int c8)])) _
          refine XS.icmpNo X0.here hx rfl (hb hby d3_17) rfl (teq h12).2 ?_
          show Steps p.tables e below (s₁.setTop (mkF m 20 #[.val (.ref a1), .val (.int (8 : Int32)), .val (.int p3), .val (.int p4), .val (.int p5), .val (.int p6), .unset, .unset, .unset] [])) _
          refine XS.iconst X0.here hx rfl (hb hby d3_20) ?_
          show Steps p.tables e below (s₁.setTop (mkF m 21 #[.val (.ref a1), .val (.int (8 : Int32)), .val (.int p3), .val (.int p4), .val (.int p5), .val (.int p6), .unset, .unset, .unset] [(.int (1 : Int32))])) _
          refine XS.goto X0.here hx rfl (pc0 := 21) (pc' := 25) rfl (hb hby d3_21) (by decide) (by decide) ?_
          exact k
        · rw [show (if c8 = p6 then (1 : Int32) else (0 : Int32)) = (0 : Int32) from if_neg h12] at k
          show Steps p.tables e below (s₁.setTop (mkF m 17 #[.val (.ref a1), .val (.int (8 : Int32)), .val (.int p3), .val (.int p4), .val (.int p5), .val (.int p6), .unset, .unset, .unset] [(.int p6), (.int c8)])) _
          refine XS.icmpYes X0.here hx rfl (pc0 := 17) (pc' := 24) rfl (hb hby d3_17) rfl (feq h12).2 (by decide) (by decide) ?_
          show Steps p.tables e below (s₁.setTop (mkF m 24 #[.val (.ref a1), .val (.int (8 : Int32)), .val (.int p3), .val (.int p4), .val (.int p5), .val (.int p6), .unset, .unset, .unset] [])) _
          refine XS.iconst X0.here hx rfl (hb hby d3_24) ?_
          exact k
      obtain ⟨fs, hr, hrun, hended, hW, hsame⟩ := X0.leave (v := some (.int ((if c8 = p6 then (1 : Int32) else (0 : Int32)) &&& 1))) (fun h => by rw [Bd.returns] at h; cases h)
      refine ⟨_, _, ?_, hrun, hended, _, _, rfl, ?_, ⟨_, rfl⟩, hW, hsame.mono (by decide) (by decide)⟩
      · show Steps p.tables e below (s₁.setTop (mkF m 9 #[.val (.ref a1), .val (.int (8 : Int32)), .val (.int p3), .val (.int p4), .val (.int p5), .val (.int p6), .unset, .unset, .unset] [(.int (p3 + p4)), (.int (8 : Int32))])) _
        refine XS.icmpNo X0.here hx rfl (hb hby d3_9) rfl (flt h5).1 ?_
        show Steps p.tables e below (s₁.setTop (mkF m 12 #[.val (.ref a1), .val (.int (8 : Int32)), .val (.int p3), .val (.int p4), .val (.int p5), .val (.int p6), .unset, .unset, .unset] [])) _
        refine XS.aloadN X0.here hx rfl (hb hby d3_12) rfl rfl ?_
        show Steps p.tables e below (s₁.setTop (mkF m 13 #[.val (.ref a1), .val (.int (8 : Int32)), .val (.int p3), .val (.int p4), .val (.int p5), .val (.int p6), .unset, .unset, .unset] [(.ref a1)])) _
        refine XS.iloadN X0.here hx rfl (hb hby d3_13) rfl ?_
        show Steps p.tables e below (s₁.setTop (mkF m 14 #[.val (.ref a1), .val (.int (8 : Int32)), .val (.int p3), .val (.int p4), .val (.int p5), .val (.int p6), .unset, .unset, .unset] [(.int (8 : Int32)), (.ref a1)])) _
        refine X0.baloadBytes hx (j := (8 : Int32)) (v := (.int c8)) (by rw [e0]; exact Ar11.1) (State.isArrayOf_alike hZ.alike Ar11.2.1) Ar11.2.2 hin11 hat11 (g := (mkF m 14 #[.val (.ref a1), .val (.int (8 : Int32)), .val (.int p3), .val (.int p4), .val (.int p5), .val (.int p6), .unset, .unset, .unset] [(.int (8 : Int32)), (.ref a1)])) rfl rfl (hb hby d3_14) _ ?_
        show Steps p.tables e below (s₁.setTop (mkF m 15 #[.val (.ref a1), .val (.int (8 : Int32)), .val (.int p3), .val (.int p4), .val (.int p5), .val (.int p6), .unset, .unset, .unset] [(.int c8)])) _
        refine XS.iload X0.here hx rfl (hb hby d3_15) rfl ?_
        show Steps p.tables e below (s₁.setTop (mkF m 17 #[.val (.ref a1), .val (.int (8 : Int32)), .val (.int p3), .val (.int p4), .val (.int p5), .val (.int p6), .unset, .unset, .unset] [(.int p6), (.int c8)])) _
        refine st13 _ ?_
        show Steps p.tables e below (s₁.setTop (mkF m 25 #[.val (.ref a1), .val (.int (8 : Int32)), .val (.int p3), .val (.int p4), .val (.int p5), .val (.int p6), .unset, .unset, .unset] [(.int (if c8 = p6 then (1 : Int32) else (0 : Int32)))])) _
        exact retN X0 hx (t := .boolean) Bd.returns (by simp) (hb hby d3_25) hr
      · show Qok8 Z a1 p3 p4 p5 p6 k1 c0 c1 c2 c3 c4 c5 c6 c7 c8 h0 n0 _ s₁.heap _
        rw [e0]
        have hf : fok8 p3 p4 p5 p6 c0 c1 c2 c3 c4 c5 c6 c7 c8 = ((if c8 = p6 then (1 : Int32) else (0 : Int32)) &&& 1) := by simp only [fok8, if_neg h1, if_neg h5]
        exact ⟨by rw [hf], N0, rfl⟩
theorem pn_0 : plainName "com/example/stratum/stratum/index/PostingsPutVarIntPinLaw" = true := by first | (simp [plainName, overriddenIn]; done) | decide +kernel
theorem ef_0 (m : MethodId) (p1 : Int32) (p2 : Int32) (p3 : Int32) : entryFrame m #[(.int p1), (.int p2), (.int p3)] maxLocals = mkF m 0 #[.val (.int p1), .val (.int p2), .val (.int p3), .unset, .unset, .unset, .unset, .unset] [] := by first | (simp [entryFrame, mkF, argsToLocals, Value.category, maxLocals]; done) | rfl
def Q0 (Z : State) (p1 : Int32) (p2 : Int32) (p3 : Int32) (h0 : Heap) (n0 : Nat) (v : Option Value) (h : Heap) (L : List Loc) : Prop := v = some (.int (1 : Int32)) ∧ Fr n0 L
set_option maxRecDepth 65536 in
set_option maxHeartbeats 40000000 in
theorem rm0 (l : Launch) (Z : State) (a0 : Array Value) (hw : ∀ d ∈ tables_1, d.before a0 Z = true) (ws : List Jvm.Cond) (p1 : Int32) (p2 : Int32) (p3 : Int32) (h0 : Heap) (n0 : Nat) (Z0 : n0 ≤ h0.size) :
    MetFree l x (head1 (Jvm.Cond.code x code maxLocals ret :: ws) room_1) (fun a U => a = #[(.int p1), (.int p2), (.int p3)] ∧ Z.Warmed39 U.vm ∧ U.heap = h0) (fun _ _ _ _ _ => True) (fun _ U o U' => ∃ v L, o = .returned v ∧ Q0 Z p1 p2 p3 h0 n0 v U'.heap L ∧ FrameEnd U o U' L room_1.cells room_1.slots) := by
  refine MetFree.of_bodySF (plainFor_of_name pn_0) hisR ?_
  intro p e s m args below meth c s₁ Bd hml0 hP hK
  obtain ⟨rfl, hZ, hh⟩ := hP
  have hx := Bd.exec
  have hby := Bd.bytes
  have hml : c.maxLocals = 8 := hml0
  have hown : s.vm.findClass "com/example/stratum/stratum/index/PostingsPutVarIntPinLaw" = some m.cls := findClass_of_methodNamed Bd.named
  have hnm := (name_of_methodNamed Bd.named Bd.method).1
  have X0 : Stand p l e room_1 s m #[(.int p1), (.int p2), (.int p3)] below meth c s₁ [] 0 0 := Stand.of_body Bd
  have e0 : s₁.heap = h0 := by rw [← hh, Bd.state]; rfl
  have N0 := Fr.nil n0
  have pre0 : ∀ t, Steps p.tables e below (s₁.setTop (mkF m 0 #[.val (.int p1), .val (.int p2), .val (.int p3), .unset, .unset, .unset, .unset, .unset] [])) t → Steps p.tables e below (s₁.setTop (entryFrame m #[(.int p1), (.int p2), (.int p3)] maxLocals)) t := fun t k => castTop (ef_0 m p1 p2 p3) k
  refine own_step (Q := fun o U' => ∃ v L, o = .returned v ∧ Q0 Z p1 p2 p3 h0 n0 v U'.heap L ∧ FrameEnd s o U' L room_1.cells room_1.slots) pre0 ?_
  have K0 : Keep h0 h0 [] := Keep.refl h0 []
  obtain ⟨T1, h1, kc1, X1, e1, E1, A1, st1⟩ := newP X0 hx hZ (hw _ (List.mem_of_getElem? (i := 0) rfl)) e0 (g := (mkF m 10 #[.val (.int p1), .val (.int p2), .val (.int p3), .val (.int (p2 &&& (3 : Int32))), .val (.int p3.toInt8.toInt32), .unset, .unset, .unset] [(.int (9 : Int32))])) rfl (hb hby at_10) (n := (9 : Int32)) (rest := []) rfl (by decide) (cap := 9) (by decide) (by decide) (by decide) (by decide)
  obtain ⟨o1, g1⟩ : ∃ z, z = h0.size := ⟨_, rfl⟩
  rw [← g1] at A1 st1
  have ge1 : n0 ≤ o1 := Nat.le_trans Z0 (Nat.le_of_eq g1.symm)
  have Z1 : n0 ≤ h1.size := Nat.le_trans Z0 E1.1
  have sz1 : h0.size ≤ o1 := Nat.le_trans K0.1 (Nat.le_of_eq g1.symm)
  have K1 := K0.ext E1
  have V1 : Arv Z h1 o1 kc1 .byte (9 : Int32) [(.int (0 : Int32)), (.int (0 : Int32)), (.int (0 : Int32)), (.int (0 : Int32)), (.int (0 : Int32)), (.int (0 : Int32)), (.int (0 : Int32)), (.int (0 : Int32)), (.int (0 : Int32))] (.int (0 : Int32)) := (Arv.new A1 (by decide)).pad (pad_rep [] (.int (0 : Int32)) 9)
  obtain ⟨cl2, Ar2, q2, S2, M2, H2, G2⟩ := id V1
  obtain ⟨T2, h2, X2, e2, W2, st2⟩ := stB X1 hx hZ e1 Ar2 (j := (0 : Int32)) (inb_of S2 (by decide)) (g := (mkF m 19 #[.val (.int p1), .val (.int p2), .val (.int p3), .val (.int (p2 &&& (3 : Int32))), .val (.int p3.toInt8.toInt32), .val (.ref o1), .unset, .unset] [(.int p3.toInt8.toInt32), (.int (0 : Int32)), (.ref o1)])) rfl rfl (hb hby at_19)
  have K2 := K1.wr W2 (Or.inr sz1)
  have Z2 : n0 ≤ h2.size := Nat.le_trans Z1 (Keep.of_wr W2).1
  have N2 := Fr.snoc X2 N0 ge1
  have V2 : Arv Z h2 o1 kc1 .byte (9 : Int32) [(.int p3.toInt8.toInt32.toInt8.toInt32), (.int (0 : Int32)), (.int (0 : Int32)), (.int (0 : Int32)), (.int (0 : Int32)), (.int (0 : Int32)), (.int (0 : Int32)), (.int (0 : Int32)), (.int (0 : Int32))] (.int (0 : Int32)) := Arv.set Ar2 q2 S2 M2 H2 G2 (fits_nar_byte _) W2 0 (by decide) (by show 0 < 9; decide)
  obtain ⟨cl3, Ar3, q3, S3, M3, H3, G3⟩ := id V2
  obtain ⟨T3, h3, X3, e3, W3, st3⟩ := stB X2 hx hZ e2 Ar3 (j := (1 : Int32)) (inb_of S3 (by decide)) (g := (mkF m 25 #[.val (.int p1), .val (.int p2), .val (.int p3), .val (.int (p2 &&& (3 : Int32))), .val (.int p3.toInt8.toInt32), .val (.ref o1), .unset, .unset] [(.int p3.toInt8.toInt32), (.int (1 : Int32)), (.ref o1)])) rfl rfl (hb hby at_25)
  have K3 := K2.wr W3 (Or.inr sz1)
  have Z3 : n0 ≤ h3.size := Nat.le_trans Z2 (Keep.of_wr W3).1
  have N3 := Fr.snoc X3 N2 ge1
  have V3 : Arv Z h3 o1 kc1 .byte (9 : Int32) [(.int p3.toInt8.toInt32.toInt8.toInt32), (.int p3.toInt8.toInt32.toInt8.toInt32), (.int (0 : Int32)), (.int (0 : Int32)), (.int (0 : Int32)), (.int (0 : Int32)), (.int (0 : Int32)), (.int (0 : Int32)), (.int (0 : Int32))] (.int (0 : Int32)) := Arv.set Ar3 q3 S3 M3 H3 G3 (fits_nar_byte _) W3 1 (by decide) (by show 1 < 9; decide)
  obtain ⟨cl4, Ar4, q4, S4, M4, H4, G4⟩ := id V3
  obtain ⟨T4, h4, X4, e4, W4, st4⟩ := stB X3 hx hZ e3 Ar4 (j := (2 : Int32)) (inb_of S4 (by decide)) (g := (mkF m 31 #[.val (.int p1), .val (.int p2), .val (.int p3), .val (.int (p2 &&& (3 : Int32))), .val (.int p3.toInt8.toInt32), .val (.ref o1), .unset, .unset] [(.int p3.toInt8.toInt32), (.int (2 : Int32)), (.ref o1)])) rfl rfl (hb hby at_31)
  have K4 := K3.wr W4 (Or.inr sz1)
  have Z4 : n0 ≤ h4.size := Nat.le_trans Z3 (Keep.of_wr W4).1
  have N4 := Fr.snoc X4 N3 ge1
  have V4 : Arv Z h4 o1 kc1 .byte (9 : Int32) [(.int p3.toInt8.toInt32.toInt8.toInt32), (.int p3.toInt8.toInt32.toInt8.toInt32), (.int p3.toInt8.toInt32.toInt8.toInt32), (.int (0 : Int32)), (.int (0 : Int32)), (.int (0 : Int32)), (.int (0 : Int32)), (.int (0 : Int32)), (.int (0 : Int32))] (.int (0 : Int32)) := Arv.set Ar4 q4 S4 M4 H4 G4 (fits_nar_byte _) W4 2 (by decide) (by show 2 < 9; decide)
  obtain ⟨cl5, Ar5, q5, S5, M5, H5, G5⟩ := id V4
  obtain ⟨T5, h5, X5, e5, W5, st5⟩ := stB X4 hx hZ e4 Ar5 (j := (3 : Int32)) (inb_of S5 (by decide)) (g := (mkF m 37 #[.val (.int p1), .val (.int p2), .val (.int p3), .val (.int (p2 &&& (3 : Int32))), .val (.int p3.toInt8.toInt32), .val (.ref o1), .unset, .unset] [(.int p3.toInt8.toInt32), (.int (3 : Int32)), (.ref o1)])) rfl rfl (hb hby at_37)
  have K5 := K4.wr W5 (Or.inr sz1)
  have Z5 : n0 ≤ h5.size := Nat.le_trans Z4 (Keep.of_wr W5).1
  have N5 := Fr.snoc X5 N4 ge1
  have V5 : Arv Z h5 o1 kc1 .byte (9 : Int32) [(.int p3.toInt8.toInt32.toInt8.toInt32), (.int p3.toInt8.toInt32.toInt8.toInt32), (.int p3.toInt8.toInt32.toInt8.toInt32), (.int p3.toInt8.toInt32.toInt8.toInt32), (.int (0 : Int32)), (.int (0 : Int32)), (.int (0 : Int32)), (.int (0 : Int32)), (.int (0 : Int32))] (.int (0 : Int32)) := Arv.set Ar5 q5 S5 M5 H5 G5 (fits_nar_byte _) W5 3 (by decide) (by show 3 < 9; decide)
  obtain ⟨cl6, Ar6, q6, S6, M6, H6, G6⟩ := id V5
  obtain ⟨T6, h6, X6, e6, W6, st6⟩ := stB X5 hx hZ e5 Ar6 (j := (4 : Int32)) (inb_of S6 (by decide)) (g := (mkF m 43 #[.val (.int p1), .val (.int p2), .val (.int p3), .val (.int (p2 &&& (3 : Int32))), .val (.int p3.toInt8.toInt32), .val (.ref o1), .unset, .unset] [(.int p3.toInt8.toInt32), (.int (4 : Int32)), (.ref o1)])) rfl rfl (hb hby at_43)
  have K6 := K5.wr W6 (Or.inr sz1)
  have Z6 : n0 ≤ h6.size := Nat.le_trans Z5 (Keep.of_wr W6).1
  have N6 := Fr.snoc X6 N5 ge1
  have V6 : Arv Z h6 o1 kc1 .byte (9 : Int32) [(.int p3.toInt8.toInt32.toInt8.toInt32), (.int p3.toInt8.toInt32.toInt8.toInt32), (.int p3.toInt8.toInt32.toInt8.toInt32), (.int p3.toInt8.toInt32.toInt8.toInt32), (.int p3.toInt8.toInt32.toInt8.toInt32), (.int (0 : Int32)), (.int (0 : Int32)), (.int (0 : Int32)), (.int (0 : Int32))] (.int (0 : Int32)) := Arv.set Ar6 q6 S6 M6 H6 G6 (fits_nar_byte _) W6 4 (by decide) (by show 4 < 9; decide)
  obtain ⟨cl7, Ar7, q7, S7, M7, H7, G7⟩ := id V6
  obtain ⟨T7, h7, X7, e7, W7, st7⟩ := stB X6 hx hZ e6 Ar7 (j := (5 : Int32)) (inb_of S7 (by decide)) (g := (mkF m 49 #[.val (.int p1), .val (.int p2), .val (.int p3), .val (.int (p2 &&& (3 : Int32))), .val (.int p3.toInt8.toInt32), .val (.ref o1), .unset, .unset] [(.int p3.toInt8.toInt32), (.int (5 : Int32)), (.ref o1)])) rfl rfl (hb hby at_49)
  have K7 := K6.wr W7 (Or.inr sz1)
  have Z7 : n0 ≤ h7.size := Nat.le_trans Z6 (Keep.of_wr W7).1
  have N7 := Fr.snoc X7 N6 ge1
  have V7 : Arv Z h7 o1 kc1 .byte (9 : Int32) [(.int p3.toInt8.toInt32.toInt8.toInt32), (.int p3.toInt8.toInt32.toInt8.toInt32), (.int p3.toInt8.toInt32.toInt8.toInt32), (.int p3.toInt8.toInt32.toInt8.toInt32), (.int p3.toInt8.toInt32.toInt8.toInt32), (.int p3.toInt8.toInt32.toInt8.toInt32), (.int (0 : Int32)), (.int (0 : Int32)), (.int (0 : Int32))] (.int (0 : Int32)) := Arv.set Ar7 q7 S7 M7 H7 G7 (fits_nar_byte _) W7 5 (by decide) (by show 5 < 9; decide)
  obtain ⟨cl8, Ar8, q8, S8, M8, H8, G8⟩ := id V7
  obtain ⟨T8, h8, X8, e8, W8, st8⟩ := stB X7 hx hZ e7 Ar8 (j := (6 : Int32)) (inb_of S8 (by decide)) (g := (mkF m 56 #[.val (.int p1), .val (.int p2), .val (.int p3), .val (.int (p2 &&& (3 : Int32))), .val (.int p3.toInt8.toInt32), .val (.ref o1), .unset, .unset] [(.int p3.toInt8.toInt32), (.int (6 : Int32)), (.ref o1)])) rfl rfl (hb hby at_56)
  have K8 := K7.wr W8 (Or.inr sz1)
  have Z8 : n0 ≤ h8.size := Nat.le_trans Z7 (Keep.of_wr W8).1
  have N8 := Fr.snoc X8 N7 ge1
  have V8 : Arv Z h8 o1 kc1 .byte (9 : Int32) [(.int p3.toInt8.toInt32.toInt8.toInt32), (.int p3.toInt8.toInt32.toInt8.toInt32), (.int p3.toInt8.toInt32.toInt8.toInt32), (.int p3.toInt8.toInt32.toInt8.toInt32), (.int p3.toInt8.toInt32.toInt8.toInt32), (.int p3.toInt8.toInt32.toInt8.toInt32), (.int p3.toInt8.toInt32.toInt8.toInt32), (.int (0 : Int32)), (.int (0 : Int32))] (.int (0 : Int32)) := Arv.set Ar8 q8 S8 M8 H8 G8 (fits_nar_byte _) W8 6 (by decide) (by show 6 < 9; decide)
  obtain ⟨cl9, Ar9, q9, S9, M9, H9, G9⟩ := id V8
  obtain ⟨T9, h9, X9, e9, W9, st9⟩ := stB X8 hx hZ e8 Ar9 (j := (7 : Int32)) (inb_of S9 (by decide)) (g := (mkF m 63 #[.val (.int p1), .val (.int p2), .val (.int p3), .val (.int (p2 &&& (3 : Int32))), .val (.int p3.toInt8.toInt32), .val (.ref o1), .unset, .unset] [(.int p3.toInt8.toInt32), (.int (7 : Int32)), (.ref o1)])) rfl rfl (hb hby at_63)
  have K9 := K8.wr W9 (Or.inr sz1)
  have Z9 : n0 ≤ h9.size := Nat.le_trans Z8 (Keep.of_wr W9).1
  have N9 := Fr.snoc X9 N8 ge1
  have V9 : Arv Z h9 o1 kc1 .byte (9 : Int32) [(.int p3.toInt8.toInt32.toInt8.toInt32), (.int p3.toInt8.toInt32.toInt8.toInt32), (.int p3.toInt8.toInt32.toInt8.toInt32), (.int p3.toInt8.toInt32.toInt8.toInt32), (.int p3.toInt8.toInt32.toInt8.toInt32), (.int p3.toInt8.toInt32.toInt8.toInt32), (.int p3.toInt8.toInt32.toInt8.toInt32), (.int p3.toInt8.toInt32.toInt8.toInt32), (.int (0 : Int32))] (.int (0 : Int32)) := Arv.set Ar9 q9 S9 M9 H9 G9 (fits_nar_byte _) W9 7 (by decide) (by show 7 < 9; decide)
  obtain ⟨cl10, Ar10, q10, S10, M10, H10, G10⟩ := id V9
  obtain ⟨T10, h10, X10, e10, W10, st10⟩ := stB X9 hx hZ e9 Ar10 (j := (8 : Int32)) (inb_of S10 (by decide)) (g := (mkF m 70 #[.val (.int p1), .val (.int p2), .val (.int p3), .val (.int (p2 &&& (3 : Int32))), .val (.int p3.toInt8.toInt32), .val (.ref o1), .unset, .unset] [(.int p3.toInt8.toInt32), (.int (8 : Int32)), (.ref o1)])) rfl rfl (hb hby at_70)
  have K10 := K9.wr W10 (Or.inr sz1)
  have Z10 : n0 ≤ h10.size := Nat.le_trans Z9 (Keep.of_wr W10).1
  have N10 := Fr.snoc X10 N9 ge1
  have V10 : Arv Z h10 o1 kc1 .byte (9 : Int32) [(.int p3.toInt8.toInt32.toInt8.toInt32), (.int p3.toInt8.toInt32.toInt8.toInt32), (.int p3.toInt8.toInt32.toInt8.toInt32), (.int p3.toInt8.toInt32.toInt8.toInt32), (.int p3.toInt8.toInt32.toInt8.toInt32), (.int p3.toInt8.toInt32.toInt8.toInt32), (.int p3.toInt8.toInt32.toInt8.toInt32), (.int p3.toInt8.toInt32.toInt8.toInt32), (.int p3.toInt8.toInt32.toInt8.toInt32)] (.int (0 : Int32)) := Arv.set Ar10 q10 S10 M10 H10 G10 (fits_nar_byte _) W10 8 (by decide) (by show 8 < 9; decide)
  obtain ⟨_, _, ⟨T11, L11, k11, n11⟩, -, X11, ⟨Lc11, hQ11, l11, y11, z11⟩, st11⟩ := Jvm.LawKit.callS X10 hx (y := (⟨"com/example/stratum/stratum/index/Postings", "putVarInt", "([BII)I"⟩ : MethodName)) hown (mvT hZ (hw _ (List.mem_of_getElem? (i := 1) rfl))) (mvT hZ (hw _ (List.mem_of_getElem? (i := 2) rfl))) (mvT hZ (hw _ (List.mem_of_getElem? (i := 3) rfl))) (mvT hZ (hw _ (List.mem_of_getElem? (i := 4) rfl))) (by decide) (backOf (W := 0) (rm1 l Z a0 hw [] o1 (p2 &&& (3 : Int32)) p1 kc1 p3.toInt8.toInt32.toInt8.toInt32 p3.toInt8.toInt32.toInt8.toInt32 p3.toInt8.toInt32.toInt8.toInt32 p3.toInt8.toInt32.toInt8.toInt32 p3.toInt8.toInt32.toInt8.toInt32 p3.toInt8.toInt32.toInt8.toInt32 p3.toInt8.toInt32.toInt8.toInt32 p3.toInt8.toInt32.toInt8.toInt32 p3.toInt8.toInt32.toInt8.toInt32 h10 n0 Z10 V10 ge1 (own_at p2)) hZ (hw _ (List.mem_of_getElem? (i := 4) rfl)) (hw _ (List.mem_of_getElem? (i := 3) rfl)) (by decide) (by decide)) (g := (mkF m 75 #[.val (.int p1), .val (.int p2), .val (.int p3), .val (.int (p2 &&& (3 : Int32))), .val (.int p3.toInt8.toInt32), .val (.ref o1), .unset, .unset] [(.int p1), (.int (p2 &&& (3 : Int32))), (.ref o1)])) rfl (by rw [hml]; rfl) (argsL := [(.ref o1), (.int (p2 &&& (3 : Int32))), (.int p1)]) (rest := []) (lenOf pd_0 rfl) rfl (by show 2 * 0 + _ ≤ _; exact Nat.le_of_eq rfl) (hb hby at_75) (fun _ _ => ⟨rfl, e10, (by decide : 1 + 0 ≤ _), (by decide : 9 + 0 ≤ _)⟩)
  dsimp only [Pt.U, Pt.locs, Pt.cells, Pt.slots] at X11 l11 y11 z11 st11 hQ11
  subst l11 y11 z11
  obtain ⟨rfl, N11q, Kc11, c11_0⟩ := hQ11
  have N11 := Fr.app N10 N11q
  have K11 := K10.trans Kc11 (fun x hx => by cases List.mem_singleton.mp hx; exact Or.inr sz1)
  have Z11 : n0 ≤ T11.heap.size := Nat.le_trans Z10 Kc11.1
  have c11_0' : Arv Z T11.heap o1 kc1 .byte (9 : Int32) [(.int (f0_0 p1 p2 p3)), (.int (f0_1 p1 p2 p3)), (.int (f0_2 p1 p2 p3)), (.int (f0_3 p1 p2 p3)), (.int (f0_4 p1 p2 p3)), (.int (f0_5 p1 p2 p3)), (.int (f0_6 p1 p2 p3)), (.int (f0_7 p1 p2 p3)), (.int (f0_8 p1 p2 p3))] (.int (0 : Int32)) := c11_0
  obtain ⟨_, _, ⟨T12, L12, k12, n12⟩, -, X12, ⟨Lc12, hQ12, l12, y12, z12⟩, st12⟩ := Jvm.LawKit.callS X11 hx (y := (⟨"com/example/stratum/stratum/index/PostingsPutVarIntPinLaw", "size", "(I)I"⟩ : MethodName)) hown (mvT hZ (hw _ (List.mem_of_getElem? (i := 5) rfl))) (mvT hZ (hw _ (List.mem_of_getElem? (i := 6) rfl))) (mvT hZ (hw _ (List.mem_of_getElem? (i := 7) rfl))) (mvT hZ (hw _ (List.mem_of_getElem? (i := 8) rfl))) (by decide) (backOf (W := 0) (rm2 l Z a0 hw [] p1 T11.heap n0 Z11) hZ (hw _ (List.mem_of_getElem? (i := 8) rfl)) (hw _ (List.mem_of_getElem? (i := 7) rfl)) (by decide) (by decide)) (g := (mkF m 81 #[.val (.int p1), .val (.int p2), .val (.int p3), .val (.int (p2 &&& (3 : Int32))), .val (.int p3.toInt8.toInt32), .val (.ref o1), .val (.int (f0_9 p1 p2 p3)), .unset] [(.int p1)])) rfl (by rw [hml]; rfl) (argsL := [(.int p1)]) (rest := []) (lenOf pd_1 rfl) rfl (by show 2 * 0 + _ ≤ _; exact Nat.le_of_eq rfl) (hb hby at_81) (fun _ _ => ⟨rfl, rfl, (by decide : 1 + 0 ≤ _), (by decide : 9 + 0 ≤ _)⟩)
  dsimp only [Pt.U, Pt.locs, Pt.cells, Pt.slots] at X12 l12 y12 z12 st12 hQ12
  subst l12 y12 z12
  obtain ⟨rfl, N12q, e12⟩ := hQ12
  have N12 := Fr.app N11 N12q
  refine own_step (B := T12.setTop (mkF m 92 #[.val (.int p1), .val (.int p2), .val (.int p3), .val (.int (p2 &&& (3 : Int32))), .val (.int p3.toInt8.toInt32), .val (.ref o1), .val (.int (f0_9 p1 p2 p3)), .val (.int (f2 p1))] [(.int ((p2 &&& (3 : Int32)) + (f2 p1))), (.int (f0_9 p1 p2 p3))])) (fun t k => ?_) ?_
  · show Steps p.tables e below (s₁.setTop (mkF m 0 #[.val (.int p1), .val (.int p2), .val (.int p3), .unset, .unset, .unset, .unset, .unset] [])) _
    refine XS.iloadN X0.here hx rfl (hb hby at_0) rfl ?_
    show Steps p.tables e below (s₁.setTop (mkF m 1 #[.val (.int p1), .val (.int p2), .val (.int p3), .unset, .unset, .unset, .unset, .unset] [(.int p2)])) _
    refine XS.iconst X0.here hx rfl (hb hby at_1) ?_
    show Steps p.tables e below (s₁.setTop (mkF m 2 #[.val (.int p1), .val (.int p2), .val (.int p3), .unset, .unset, .unset, .unset, .unset] [(.int (3 : Int32)), (.int p2)])) _
    refine XS.iand X0.here hx rfl (hb hby at_2) rfl ?_
    show Steps p.tables e below (s₁.setTop (mkF m 3 #[.val (.int p1), .val (.int p2), .val (.int p3), .unset, .unset, .unset, .unset, .unset] [(.int (p2 &&& (3 : Int32)))])) _
    refine XS.istoreN X0.here hx rfl (hb hby at_3) rfl (l' := #[.val (.int p1), .val (.int p2), .val (.int p3), .val (.int (p2 &&& (3 : Int32))), .unset, .unset, .unset, .unset]) rfl ?_
    show Steps p.tables e below (s₁.setTop (mkF m 4 #[.val (.int p1), .val (.int p2), .val (.int p3), .val (.int (p2 &&& (3 : Int32))), .unset, .unset, .unset, .unset] [])) _
    refine XS.iloadN X0.here hx rfl (hb hby at_4) rfl ?_
    show Steps p.tables e below (s₁.setTop (mkF m 5 #[.val (.int p1), .val (.int p2), .val (.int p3), .val (.int (p2 &&& (3 : Int32))), .unset, .unset, .unset, .unset] [(.int p3)])) _
    refine XT.i2b X0.here hx rfl (hb hby at_5) rfl ?_
    show Steps p.tables e below (s₁.setTop (mkF m 6 #[.val (.int p1), .val (.int p2), .val (.int p3), .val (.int (p2 &&& (3 : Int32))), .unset, .unset, .unset, .unset] [(.int p3.toInt8.toInt32)])) _
    refine XS.istore X0.here hx rfl (hb hby at_6) rfl (l' := #[.val (.int p1), .val (.int p2), .val (.int p3), .val (.int (p2 &&& (3 : Int32))), .val (.int p3.toInt8.toInt32), .unset, .unset, .unset]) rfl ?_
    show Steps p.tables e below (s₁.setTop (mkF m 8 #[.val (.int p1), .val (.int p2), .val (.int p3), .val (.int (p2 &&& (3 : Int32))), .val (.int p3.toInt8.toInt32), .unset, .unset, .unset] [])) _
    refine XS.bipush X0.here hx rfl (hb hby at_8) ?_
    show Steps p.tables e below (s₁.setTop (mkF m 10 #[.val (.int p1), .val (.int p2), .val (.int p3), .val (.int (p2 &&& (3 : Int32))), .val (.int p3.toInt8.toInt32), .unset, .unset, .unset] [(.int (9 : Int32))])) _
    refine st1 _ ?_
    show Steps p.tables e below (T1.setTop (mkF m 12 #[.val (.int p1), .val (.int p2), .val (.int p3), .val (.int (p2 &&& (3 : Int32))), .val (.int p3.toInt8.toInt32), .unset, .unset, .unset] [(.ref o1)])) _
    refine XS.astore X1.here hx rfl (hb hby at_12) rfl rfl (l' := #[.val (.int p1), .val (.int p2), .val (.int p3), .val (.int (p2 &&& (3 : Int32))), .val (.int p3.toInt8.toInt32), .val (.ref o1), .unset, .unset]) rfl ?_
    show Steps p.tables e below (T1.setTop (mkF m 14 #[.val (.int p1), .val (.int p2), .val (.int p3), .val (.int (p2 &&& (3 : Int32))), .val (.int p3.toInt8.toInt32), .val (.ref o1), .unset, .unset] [])) _
    refine XS.aload X1.here hx rfl (hb hby at_14) rfl rfl ?_
    show Steps p.tables e below (T1.setTop (mkF m 16 #[.val (.int p1), .val (.int p2), .val (.int p3), .val (.int (p2 &&& (3 : Int32))), .val (.int p3.toInt8.toInt32), .val (.ref o1), .unset, .unset] [(.ref o1)])) _
    refine XS.iconst X1.here hx rfl (hb hby at_16) ?_
    show Steps p.tables e below (T1.setTop (mkF m 17 #[.val (.int p1), .val (.int p2), .val (.int p3), .val (.int (p2 &&& (3 : Int32))), .val (.int p3.toInt8.toInt32), .val (.ref o1), .unset, .unset] [(.int (0 : Int32)), (.ref o1)])) _
    refine XS.iload X1.here hx rfl (hb hby at_17) rfl ?_
    show Steps p.tables e below (T1.setTop (mkF m 19 #[.val (.int p1), .val (.int p2), .val (.int p3), .val (.int (p2 &&& (3 : Int32))), .val (.int p3.toInt8.toInt32), .val (.ref o1), .unset, .unset] [(.int p3.toInt8.toInt32), (.int (0 : Int32)), (.ref o1)])) _
    refine st2 _ ?_
    show Steps p.tables e below (T2.setTop (mkF m 20 #[.val (.int p1), .val (.int p2), .val (.int p3), .val (.int (p2 &&& (3 : Int32))), .val (.int p3.toInt8.toInt32), .val (.ref o1), .unset, .unset] [])) _
    refine XS.aload X2.here hx rfl (hb hby at_20) rfl rfl ?_
    show Steps p.tables e below (T2.setTop (mkF m 22 #[.val (.int p1), .val (.int p2), .val (.int p3), .val (.int (p2 &&& (3 : Int32))), .val (.int p3.toInt8.toInt32), .val (.ref o1), .unset, .unset] [(.ref o1)])) _
    refine XS.iconst X2.here hx rfl (hb hby at_22) ?_
    show Steps p.tables e below (T2.setTop (mkF m 23 #[.val (.int p1), .val (.int p2), .val (.int p3), .val (.int (p2 &&& (3 : Int32))), .val (.int p3.toInt8.toInt32), .val (.ref o1), .unset, .unset] [(.int (1 : Int32)), (.ref o1)])) _
    refine XS.iload X2.here hx rfl (hb hby at_23) rfl ?_
    show Steps p.tables e below (T2.setTop (mkF m 25 #[.val (.int p1), .val (.int p2), .val (.int p3), .val (.int (p2 &&& (3 : Int32))), .val (.int p3.toInt8.toInt32), .val (.ref o1), .unset, .unset] [(.int p3.toInt8.toInt32), (.int (1 : Int32)), (.ref o1)])) _
    refine st3 _ ?_
    show Steps p.tables e below (T3.setTop (mkF m 26 #[.val (.int p1), .val (.int p2), .val (.int p3), .val (.int (p2 &&& (3 : Int32))), .val (.int p3.toInt8.toInt32), .val (.ref o1), .unset, .unset] [])) _
    refine XS.aload X3.here hx rfl (hb hby at_26) rfl rfl ?_
    show Steps p.tables e below (T3.setTop (mkF m 28 #[.val (.int p1), .val (.int p2), .val (.int p3), .val (.int (p2 &&& (3 : Int32))), .val (.int p3.toInt8.toInt32), .val (.ref o1), .unset, .unset] [(.ref o1)])) _
    refine XS.iconst X3.here hx rfl (hb hby at_28) ?_
    show Steps p.tables e below (T3.setTop (mkF m 29 #[.val (.int p1), .val (.int p2), .val (.int p3), .val (.int (p2 &&& (3 : Int32))), .val (.int p3.toInt8.toInt32), .val (.ref o1), .unset, .unset] [(.int (2 : Int32)), (.ref o1)])) _
    refine XS.iload X3.here hx rfl (hb hby at_29) rfl ?_
    show Steps p.tables e below (T3.setTop (mkF m 31 #[.val (.int p1), .val (.int p2), .val (.int p3), .val (.int (p2 &&& (3 : Int32))), .val (.int p3.toInt8.toInt32), .val (.ref o1), .unset, .unset] [(.int p3.toInt8.toInt32), (.int (2 : Int32)), (.ref o1)])) _
    refine st4 _ ?_
    show Steps p.tables e below (T4.setTop (mkF m 32 #[.val (.int p1), .val (.int p2), .val (.int p3), .val (.int (p2 &&& (3 : Int32))), .val (.int p3.toInt8.toInt32), .val (.ref o1), .unset, .unset] [])) _
    refine XS.aload X4.here hx rfl (hb hby at_32) rfl rfl ?_
    show Steps p.tables e below (T4.setTop (mkF m 34 #[.val (.int p1), .val (.int p2), .val (.int p3), .val (.int (p2 &&& (3 : Int32))), .val (.int p3.toInt8.toInt32), .val (.ref o1), .unset, .unset] [(.ref o1)])) _
    refine XS.iconst X4.here hx rfl (hb hby at_34) ?_
    show Steps p.tables e below (T4.setTop (mkF m 35 #[.val (.int p1), .val (.int p2), .val (.int p3), .val (.int (p2 &&& (3 : Int32))), .val (.int p3.toInt8.toInt32), .val (.ref o1), .unset, .unset] [(.int (3 : Int32)), (.ref o1)])) _
    refine XS.iload X4.here hx rfl (hb hby at_35) rfl ?_
    show Steps p.tables e below (T4.setTop (mkF m 37 #[.val (.int p1), .val (.int p2), .val (.int p3), .val (.int (p2 &&& (3 : Int32))), .val (.int p3.toInt8.toInt32), .val (.ref o1), .unset, .unset] [(.int p3.toInt8.toInt32), (.int (3 : Int32)), (.ref o1)])) _
    refine st5 _ ?_
    show Steps p.tables e below (T5.setTop (mkF m 38 #[.val (.int p1), .val (.int p2), .val (.int p3), .val (.int (p2 &&& (3 : Int32))), .val (.int p3.toInt8.toInt32), .val (.ref o1), .unset, .unset] [])) _
    refine XS.aload X5.here hx rfl (hb hby at_38) rfl rfl ?_
    show Steps p.tables e below (T5.setTop (mkF m 40 #[.val (.int p1), .val (.int p2), .val (.int p3), .val (.int (p2 &&& (3 : Int32))), .val (.int p3.toInt8.toInt32), .val (.ref o1), .unset, .unset] [(.ref o1)])) _
    refine XS.iconst X5.here hx rfl (hb hby at_40) ?_
    show Steps p.tables e below (T5.setTop (mkF m 41 #[.val (.int p1), .val (.int p2), .val (.int p3), .val (.int (p2 &&& (3 : Int32))), .val (.int p3.toInt8.toInt32), .val (.ref o1), .unset, .unset] [(.int (4 : Int32)), (.ref o1)])) _
    refine XS.iload X5.here hx rfl (hb hby at_41) rfl ?_
    show Steps p.tables e below (T5.setTop (mkF m 43 #[.val (.int p1), .val (.int p2), .val (.int p3), .val (.int (p2 &&& (3 : Int32))), .val (.int p3.toInt8.toInt32), .val (.ref o1), .unset, .unset] [(.int p3.toInt8.toInt32), (.int (4 : Int32)), (.ref o1)])) _
    refine st6 _ ?_
    show Steps p.tables e below (T6.setTop (mkF m 44 #[.val (.int p1), .val (.int p2), .val (.int p3), .val (.int (p2 &&& (3 : Int32))), .val (.int p3.toInt8.toInt32), .val (.ref o1), .unset, .unset] [])) _
    refine XS.aload X6.here hx rfl (hb hby at_44) rfl rfl ?_
    show Steps p.tables e below (T6.setTop (mkF m 46 #[.val (.int p1), .val (.int p2), .val (.int p3), .val (.int (p2 &&& (3 : Int32))), .val (.int p3.toInt8.toInt32), .val (.ref o1), .unset, .unset] [(.ref o1)])) _
    refine XS.iconst X6.here hx rfl (hb hby at_46) ?_
    show Steps p.tables e below (T6.setTop (mkF m 47 #[.val (.int p1), .val (.int p2), .val (.int p3), .val (.int (p2 &&& (3 : Int32))), .val (.int p3.toInt8.toInt32), .val (.ref o1), .unset, .unset] [(.int (5 : Int32)), (.ref o1)])) _
    refine XS.iload X6.here hx rfl (hb hby at_47) rfl ?_
    show Steps p.tables e below (T6.setTop (mkF m 49 #[.val (.int p1), .val (.int p2), .val (.int p3), .val (.int (p2 &&& (3 : Int32))), .val (.int p3.toInt8.toInt32), .val (.ref o1), .unset, .unset] [(.int p3.toInt8.toInt32), (.int (5 : Int32)), (.ref o1)])) _
    refine st7 _ ?_
    show Steps p.tables e below (T7.setTop (mkF m 50 #[.val (.int p1), .val (.int p2), .val (.int p3), .val (.int (p2 &&& (3 : Int32))), .val (.int p3.toInt8.toInt32), .val (.ref o1), .unset, .unset] [])) _
    refine XS.aload X7.here hx rfl (hb hby at_50) rfl rfl ?_
    show Steps p.tables e below (T7.setTop (mkF m 52 #[.val (.int p1), .val (.int p2), .val (.int p3), .val (.int (p2 &&& (3 : Int32))), .val (.int p3.toInt8.toInt32), .val (.ref o1), .unset, .unset] [(.ref o1)])) _
    refine XS.bipush X7.here hx rfl (hb hby at_52) ?_
    show Steps p.tables e below (T7.setTop (mkF m 54 #[.val (.int p1), .val (.int p2), .val (.int p3), .val (.int (p2 &&& (3 : Int32))), .val (.int p3.toInt8.toInt32), .val (.ref o1), .unset, .unset] [(.int (6 : Int32)), (.ref o1)])) _
    refine XS.iload X7.here hx rfl (hb hby at_54) rfl ?_
    show Steps p.tables e below (T7.setTop (mkF m 56 #[.val (.int p1), .val (.int p2), .val (.int p3), .val (.int (p2 &&& (3 : Int32))), .val (.int p3.toInt8.toInt32), .val (.ref o1), .unset, .unset] [(.int p3.toInt8.toInt32), (.int (6 : Int32)), (.ref o1)])) _
    refine st8 _ ?_
    show Steps p.tables e below (T8.setTop (mkF m 57 #[.val (.int p1), .val (.int p2), .val (.int p3), .val (.int (p2 &&& (3 : Int32))), .val (.int p3.toInt8.toInt32), .val (.ref o1), .unset, .unset] [])) _
    refine XS.aload X8.here hx rfl (hb hby at_57) rfl rfl ?_
    show Steps p.tables e below (T8.setTop (mkF m 59 #[.val (.int p1), .val (.int p2), .val (.int p3), .val (.int (p2 &&& (3 : Int32))), .val (.int p3.toInt8.toInt32), .val (.ref o1), .unset, .unset] [(.ref o1)])) _
    refine XS.bipush X8.here hx rfl (hb hby at_59) ?_
    show Steps p.tables e below (T8.setTop (mkF m 61 #[.val (.int p1), .val (.int p2), .val (.int p3), .val (.int (p2 &&& (3 : Int32))), .val (.int p3.toInt8.toInt32), .val (.ref o1), .unset, .unset] [(.int (7 : Int32)), (.ref o1)])) _
    refine XS.iload X8.here hx rfl (hb hby at_61) rfl ?_
    show Steps p.tables e below (T8.setTop (mkF m 63 #[.val (.int p1), .val (.int p2), .val (.int p3), .val (.int (p2 &&& (3 : Int32))), .val (.int p3.toInt8.toInt32), .val (.ref o1), .unset, .unset] [(.int p3.toInt8.toInt32), (.int (7 : Int32)), (.ref o1)])) _
    refine st9 _ ?_
    show Steps p.tables e below (T9.setTop (mkF m 64 #[.val (.int p1), .val (.int p2), .val (.int p3), .val (.int (p2 &&& (3 : Int32))), .val (.int p3.toInt8.toInt32), .val (.ref o1), .unset, .unset] [])) _
    refine XS.aload X9.here hx rfl (hb hby at_64) rfl rfl ?_
    show Steps p.tables e below (T9.setTop (mkF m 66 #[.val (.int p1), .val (.int p2), .val (.int p3), .val (.int (p2 &&& (3 : Int32))), .val (.int p3.toInt8.toInt32), .val (.ref o1), .unset, .unset] [(.ref o1)])) _
    refine XS.bipush X9.here hx rfl (hb hby at_66) ?_
    show Steps p.tables e below (T9.setTop (mkF m 68 #[.val (.int p1), .val (.int p2), .val (.int p3), .val (.int (p2 &&& (3 : Int32))), .val (.int p3.toInt8.toInt32), .val (.ref o1), .unset, .unset] [(.int (8 : Int32)), (.ref o1)])) _
    refine XS.iload X9.here hx rfl (hb hby at_68) rfl ?_
    show Steps p.tables e below (T9.setTop (mkF m 70 #[.val (.int p1), .val (.int p2), .val (.int p3), .val (.int (p2 &&& (3 : Int32))), .val (.int p3.toInt8.toInt32), .val (.ref o1), .unset, .unset] [(.int p3.toInt8.toInt32), (.int (8 : Int32)), (.ref o1)])) _
    refine st10 _ ?_
    show Steps p.tables e below (T10.setTop (mkF m 71 #[.val (.int p1), .val (.int p2), .val (.int p3), .val (.int (p2 &&& (3 : Int32))), .val (.int p3.toInt8.toInt32), .val (.ref o1), .unset, .unset] [])) _
    refine XS.aload X10.here hx rfl (hb hby at_71) rfl rfl ?_
    show Steps p.tables e below (T10.setTop (mkF m 73 #[.val (.int p1), .val (.int p2), .val (.int p3), .val (.int (p2 &&& (3 : Int32))), .val (.int p3.toInt8.toInt32), .val (.ref o1), .unset, .unset] [(.ref o1)])) _
    refine XS.iloadN X10.here hx rfl (hb hby at_73) rfl ?_
    show Steps p.tables e below (T10.setTop (mkF m 74 #[.val (.int p1), .val (.int p2), .val (.int p3), .val (.int (p2 &&& (3 : Int32))), .val (.int p3.toInt8.toInt32), .val (.ref o1), .unset, .unset] [(.int (p2 &&& (3 : Int32))), (.ref o1)])) _
    refine XS.iloadN X10.here hx rfl (hb hby at_74) rfl ?_
    show Steps p.tables e below (T10.setTop (mkF m 75 #[.val (.int p1), .val (.int p2), .val (.int p3), .val (.int (p2 &&& (3 : Int32))), .val (.int p3.toInt8.toInt32), .val (.ref o1), .unset, .unset] [(.int p1), (.int (p2 &&& (3 : Int32))), (.ref o1)])) _
    refine st11 _ ?_
    show Steps p.tables e below (T11.setTop (mkF m 78 #[.val (.int p1), .val (.int p2), .val (.int p3), .val (.int (p2 &&& (3 : Int32))), .val (.int p3.toInt8.toInt32), .val (.ref o1), .unset, .unset] [(.int (f0_9 p1 p2 p3))])) _
    refine XS.istore X11.here hx rfl (hb hby at_78) rfl (l' := #[.val (.int p1), .val (.int p2), .val (.int p3), .val (.int (p2 &&& (3 : Int32))), .val (.int p3.toInt8.toInt32), .val (.ref o1), .val (.int (f0_9 p1 p2 p3)), .unset]) rfl ?_
    show Steps p.tables e below (T11.setTop (mkF m 80 #[.val (.int p1), .val (.int p2), .val (.int p3), .val (.int (p2 &&& (3 : Int32))), .val (.int p3.toInt8.toInt32), .val (.ref o1), .val (.int (f0_9 p1 p2 p3)), .unset] [])) _
    refine XS.iloadN X11.here hx rfl (hb hby at_80) rfl ?_
    show Steps p.tables e below (T11.setTop (mkF m 81 #[.val (.int p1), .val (.int p2), .val (.int p3), .val (.int (p2 &&& (3 : Int32))), .val (.int p3.toInt8.toInt32), .val (.ref o1), .val (.int (f0_9 p1 p2 p3)), .unset] [(.int p1)])) _
    refine st12 _ ?_
    show Steps p.tables e below (T12.setTop (mkF m 84 #[.val (.int p1), .val (.int p2), .val (.int p3), .val (.int (p2 &&& (3 : Int32))), .val (.int p3.toInt8.toInt32), .val (.ref o1), .val (.int (f0_9 p1 p2 p3)), .unset] [(.int (f2 p1))])) _
    refine XS.istore X12.here hx rfl (hb hby at_84) rfl (l' := #[.val (.int p1), .val (.int p2), .val (.int p3), .val (.int (p2 &&& (3 : Int32))), .val (.int p3.toInt8.toInt32), .val (.ref o1), .val (.int (f0_9 p1 p2 p3)), .val (.int (f2 p1))]) rfl ?_
    show Steps p.tables e below (T12.setTop (mkF m 86 #[.val (.int p1), .val (.int p2), .val (.int p3), .val (.int (p2 &&& (3 : Int32))), .val (.int p3.toInt8.toInt32), .val (.ref o1), .val (.int (f0_9 p1 p2 p3)), .val (.int (f2 p1))] [])) _
    refine XS.iload X12.here hx rfl (hb hby at_86) rfl ?_
    show Steps p.tables e below (T12.setTop (mkF m 88 #[.val (.int p1), .val (.int p2), .val (.int p3), .val (.int (p2 &&& (3 : Int32))), .val (.int p3.toInt8.toInt32), .val (.ref o1), .val (.int (f0_9 p1 p2 p3)), .val (.int (f2 p1))] [(.int (f0_9 p1 p2 p3))])) _
    refine XS.iloadN X12.here hx rfl (hb hby at_88) rfl ?_
    show Steps p.tables e below (T12.setTop (mkF m 89 #[.val (.int p1), .val (.int p2), .val (.int p3), .val (.int (p2 &&& (3 : Int32))), .val (.int p3.toInt8.toInt32), .val (.ref o1), .val (.int (f0_9 p1 p2 p3)), .val (.int (f2 p1))] [(.int (p2 &&& (3 : Int32))), (.int (f0_9 p1 p2 p3))])) _
    refine XS.iload X12.here hx rfl (hb hby at_89) rfl ?_
    show Steps p.tables e below (T12.setTop (mkF m 91 #[.val (.int p1), .val (.int p2), .val (.int p3), .val (.int (p2 &&& (3 : Int32))), .val (.int p3.toInt8.toInt32), .val (.ref o1), .val (.int (f0_9 p1 p2 p3)), .val (.int (f2 p1))] [(.int (f2 p1)), (.int (p2 &&& (3 : Int32))), (.int (f0_9 p1 p2 p3))])) _
    refine XS.iadd X12.here hx rfl (hb hby at_91) rfl ?_
    exact k
  by_cases h13 : (f0_9 p1 p2 p3) = ((p2 &&& (3 : Int32)) + (f2 p1))
  · obtain ⟨_, _, ⟨T14, L14, k14, n14⟩, -, X14, ⟨Lc14, hQ14, l14, y14, z14⟩, st14⟩ := Jvm.LawKit.callS X12 hx (y := (⟨"com/example/stratum/stratum/index/PostingsPutVarIntPinLaw", "ok", "([BIIIIB)Z"⟩ : MethodName)) hown (mvT hZ (hw _ (List.mem_of_getElem? (i := 9) rfl))) (mvT hZ (hw _ (List.mem_of_getElem? (i := 10) rfl))) (mvT hZ (hw _ (List.mem_of_getElem? (i := 7) rfl))) (mvT hZ (hw _ (List.mem_of_getElem? (i := 11) rfl))) (by decide) (backOf (W := 0) (rmok0 l Z a0 hw [] o1 (p2 &&& (3 : Int32)) (f2 p1) p1 p3.toInt8.toInt32 kc1 (f0_0 p1 p2 p3) (f0_1 p1 p2 p3) (f0_2 p1 p2 p3) (f0_3 p1 p2 p3) (f0_4 p1 p2 p3) (f0_5 p1 p2 p3) (f0_6 p1 p2 p3) (f0_7 p1 p2 p3) (f0_8 p1 p2 p3) T11.heap n0 Z11 c11_0') hZ (hw _ (List.mem_of_getElem? (i := 11) rfl)) (hw _ (List.mem_of_getElem? (i := 7) rfl)) (by decide) (by decide)) (g := (mkF m 106 #[.val (.int p1), .val (.int p2), .val (.int p3), .val (.int (p2 &&& (3 : Int32))), .val (.int p3.toInt8.toInt32), .val (.ref o1), .val (.int (f0_9 p1 p2 p3)), .val (.int (f2 p1))] [(.int p3.toInt8.toInt32), (.int p1), (.int (f2 p1)), (.int (p2 &&& (3 : Int32))), (.int (0 : Int32)), (.ref o1)])) rfl (by rw [hml]; rfl) (argsL := [(.ref o1), (.int (0 : Int32)), (.int (p2 &&& (3 : Int32))), (.int (f2 p1)), (.int p1), (.int p3.toInt8.toInt32)]) (rest := []) (lenOf pd_2 rfl) rfl (by show 2 * 0 + _ ≤ _; exact Nat.le_of_eq rfl) (hb hby at_106) (fun _ _ => ⟨rfl, e12, (by decide : 1 + 0 ≤ _), (by decide : 9 + 0 ≤ _)⟩)
    dsimp only [Pt.U, Pt.locs, Pt.cells, Pt.slots] at X14 l14 y14 z14 st14 hQ14
    subst l14 y14 z14
    obtain ⟨rfl, N14q, e14⟩ := hQ14
    have N14 := Fr.app N12 N14q
    obtain ⟨T40, lo40, X40, e40, N40, st40⟩ : ∃ (T' : State) (lo : List Loc) (_ : Stand p l e room_1 s m #[(.int p1), (.int p2), (.int p3)] below meth c T' lo 1 9), T'.heap = T11.heap ∧ Fr n0 lo ∧ ∀ t, Steps p.tables e below (T'.setTop (mkF m 240 #[.val (.int p1), .val (.int p2), .val (.int p3), .val (.int (p2 &&& (3 : Int32))), .val (.int p3.toInt8.toInt32), .val (.ref o1), .val (.int (f0_9 p1 p2 p3)), .val (.int (f2 p1))] [(.int (if (f0_10 p1 p2 p3) = (0 : Int32) then (0 : Int32) else (f0_22 p1 p2 p3)))])) t → Steps p.tables e below (T14.setTop (mkF m 109 #[.val (.int p1), .val (.int p2), .val (.int p3), .val (.int (p2 &&& (3 : Int32))), .val (.int p3.toInt8.toInt32), .val (.ref o1), .val (.int (f0_9 p1 p2 p3)), .val (.int (f2 p1))] [(.int (f0_10 p1 p2 p3))])) t := by
      by_cases h15 : (f0_10 p1 p2 p3) = (0 : Int32)
      · refine ⟨T14, _, X14, e14, N14, fun t k => ?_⟩
        rw [show (if (f0_10 p1 p2 p3) = (0 : Int32) then (0 : Int32) else (f0_22 p1 p2 p3)) = (0 : Int32) from if_pos h15] at k
        show Steps p.tables e below (T14.setTop (mkF m 109 #[.val (.int p1), .val (.int p2), .val (.int p3), .val (.int (p2 &&& (3 : Int32))), .val (.int p3.toInt8.toInt32), .val (.ref o1), .val (.int (f0_9 p1 p2 p3)), .val (.int (f2 p1))] [(.int (f0_10 p1 p2 p3))])) _
        refine XS.ifYes X14.here hx rfl (pc0 := 109) (pc' := 239) rfl (hb hby at_109) rfl ((if0 _ _).trans (teq h15).1) (by decide) (by decide) ?_
        show Steps p.tables e below (T14.setTop (mkF m 239 #[.val (.int p1), .val (.int p2), .val (.int p3), .val (.int (p2 &&& (3 : Int32))), .val (.int p3.toInt8.toInt32), .val (.ref o1), .val (.int (f0_9 p1 p2 p3)), .val (.int (f2 p1))] [])) _
        refine XS.iconst X14.here hx rfl (hb hby at_239) ?_
        exact k
      · obtain ⟨_, _, ⟨T16, L16, k16, n16⟩, -, X16, ⟨Lc16, hQ16, l16, y16, z16⟩, st16⟩ := Jvm.LawKit.callS X14 hx (y := (⟨"com/example/stratum/stratum/index/PostingsPutVarIntPinLaw", "ok", "([BIIIIB)Z"⟩ : MethodName)) hown (mvT hZ (hw _ (List.mem_of_getElem? (i := 9) rfl))) (mvT hZ (hw _ (List.mem_of_getElem? (i := 10) rfl))) (mvT hZ (hw _ (List.mem_of_getElem? (i := 7) rfl))) (mvT hZ (hw _ (List.mem_of_getElem? (i := 11) rfl))) (by decide) (backOf (W := 0) (rmok1 l Z a0 hw [] o1 (p2 &&& (3 : Int32)) (f2 p1) p1 p3.toInt8.toInt32 kc1 (f0_0 p1 p2 p3) (f0_1 p1 p2 p3) (f0_2 p1 p2 p3) (f0_3 p1 p2 p3) (f0_4 p1 p2 p3) (f0_5 p1 p2 p3) (f0_6 p1 p2 p3) (f0_7 p1 p2 p3) (f0_8 p1 p2 p3) T11.heap n0 Z11 c11_0') hZ (hw _ (List.mem_of_getElem? (i := 11) rfl)) (hw _ (List.mem_of_getElem? (i := 7) rfl)) (by decide) (by decide)) (g := (mkF m 121 #[.val (.int p1), .val (.int p2), .val (.int p3), .val (.int (p2 &&& (3 : Int32))), .val (.int p3.toInt8.toInt32), .val (.ref o1), .val (.int (f0_9 p1 p2 p3)), .val (.int (f2 p1))] [(.int p3.toInt8.toInt32), (.int p1), (.int (f2 p1)), (.int (p2 &&& (3 : Int32))), (.int (1 : Int32)), (.ref o1)])) rfl (by rw [hml]; rfl) (argsL := [(.ref o1), (.int (1 : Int32)), (.int (p2 &&& (3 : Int32))), (.int (f2 p1)), (.int p1), (.int p3.toInt8.toInt32)]) (rest := []) (lenOf pd_2 rfl) rfl (by show 2 * 0 + _ ≤ _; exact Nat.le_of_eq rfl) (hb hby at_121) (fun _ _ => ⟨rfl, e14, (by decide : 1 + 0 ≤ _), (by decide : 9 + 0 ≤ _)⟩)
        dsimp only [Pt.U, Pt.locs, Pt.cells, Pt.slots] at X16 l16 y16 z16 st16 hQ16
        subst l16 y16 z16
        obtain ⟨rfl, N16q, e16⟩ := hQ16
        have N16 := Fr.app N14 N16q
        obtain ⟨T39, lo39, X39, e39, N39, st39⟩ : ∃ (T' : State) (lo : List Loc) (_ : Stand p l e room_1 s m #[(.int p1), (.int p2), (.int p3)] below meth c T' lo 1 9), T'.heap = T11.heap ∧ Fr n0 lo ∧ ∀ t, Steps p.tables e below (T'.setTop (mkF m 240 #[.val (.int p1), .val (.int p2), .val (.int p3), .val (.int (p2 &&& (3 : Int32))), .val (.int p3.toInt8.toInt32), .val (.ref o1), .val (.int (f0_9 p1 p2 p3)), .val (.int (f2 p1))] [(.int (f0_22 p1 p2 p3))])) t → Steps p.tables e below (T16.setTop (mkF m 124 #[.val (.int p1), .val (.int p2), .val (.int p3), .val (.int (p2 &&& (3 : Int32))), .val (.int p3.toInt8.toInt32), .val (.ref o1), .val (.int (f0_9 p1 p2 p3)), .val (.int (f2 p1))] [(.int (f0_11 p1 p2 p3))])) t := by
          by_cases h17 : (f0_11 p1 p2 p3) = (0 : Int32)
          · refine ⟨T16, _, X16, e16, N16, fun t k => ?_⟩
            rw [show (f0_22 p1 p2 p3) = (0 : Int32) from if_pos h17] at k
            show Steps p.tables e below (T16.setTop (mkF m 124 #[.val (.int p1), .val (.int p2), .val (.int p3), .val (.int (p2 &&& (3 : Int32))), .val (.int p3.toInt8.toInt32), .val (.ref o1), .val (.int (f0_9 p1 p2 p3)), .val (.int (f2 p1))] [(.int (f0_11 p1 p2 p3))])) _
            refine XS.ifYes X16.here hx rfl (pc0 := 124) (pc' := 239) rfl (hb hby at_124) rfl ((if0 _ _).trans (teq h17).1) (by decide) (by decide) ?_
            show Steps p.tables e below (T16.setTop (mkF m 239 #[.val (.int p1), .val (.int p2), .val (.int p3), .val (.int (p2 &&& (3 : Int32))), .val (.int p3.toInt8.toInt32), .val (.ref o1), .val (.int (f0_9 p1 p2 p3)), .val (.int (f2 p1))] [])) _
            refine XS.iconst X16.here hx rfl (hb hby at_239) ?_
            exact k
          · obtain ⟨_, _, ⟨T18, L18, k18, n18⟩, -, X18, ⟨Lc18, hQ18, l18, y18, z18⟩, st18⟩ := Jvm.LawKit.callS X16 hx (y := (⟨"com/example/stratum/stratum/index/PostingsPutVarIntPinLaw", "ok", "([BIIIIB)Z"⟩ : MethodName)) hown (mvT hZ (hw _ (List.mem_of_getElem? (i := 9) rfl))) (mvT hZ (hw _ (List.mem_of_getElem? (i := 10) rfl))) (mvT hZ (hw _ (List.mem_of_getElem? (i := 7) rfl))) (mvT hZ (hw _ (List.mem_of_getElem? (i := 11) rfl))) (by decide) (backOf (W := 0) (rmok2 l Z a0 hw [] o1 (p2 &&& (3 : Int32)) (f2 p1) p1 p3.toInt8.toInt32 kc1 (f0_0 p1 p2 p3) (f0_1 p1 p2 p3) (f0_2 p1 p2 p3) (f0_3 p1 p2 p3) (f0_4 p1 p2 p3) (f0_5 p1 p2 p3) (f0_6 p1 p2 p3) (f0_7 p1 p2 p3) (f0_8 p1 p2 p3) T11.heap n0 Z11 c11_0') hZ (hw _ (List.mem_of_getElem? (i := 11) rfl)) (hw _ (List.mem_of_getElem? (i := 7) rfl)) (by decide) (by decide)) (g := (mkF m 136 #[.val (.int p1), .val (.int p2), .val (.int p3), .val (.int (p2 &&& (3 : Int32))), .val (.int p3.toInt8.toInt32), .val (.ref o1), .val (.int (f0_9 p1 p2 p3)), .val (.int (f2 p1))] [(.int p3.toInt8.toInt32), (.int p1), (.int (f2 p1)), (.int (p2 &&& (3 : Int32))), (.int (2 : Int32)), (.ref o1)])) rfl (by rw [hml]; rfl) (argsL := [(.ref o1), (.int (2 : Int32)), (.int (p2 &&& (3 : Int32))), (.int (f2 p1)), (.int p1), (.int p3.toInt8.toInt32)]) (rest := []) (lenOf pd_2 rfl) rfl (by show 2 * 0 + _ ≤ _; exact Nat.le_of_eq rfl) (hb hby at_136) (fun _ _ => ⟨rfl, e16, (by decide : 1 + 0 ≤ _), (by decide : 9 + 0 ≤ _)⟩)
            dsimp only [Pt.U, Pt.locs, Pt.cells, Pt.slots] at X18 l18 y18 z18 st18 hQ18
            subst l18 y18 z18
            obtain ⟨rfl, N18q, e18⟩ := hQ18
            have N18 := Fr.app N16 N18q
            obtain ⟨T38, lo38, X38, e38, N38, st38⟩ : ∃ (T' : State) (lo : List Loc) (_ : Stand p l e room_1 s m #[(.int p1), (.int p2), (.int p3)] below meth c T' lo 1 9), T'.heap = T11.heap ∧ Fr n0 lo ∧ ∀ t, Steps p.tables e below (T'.setTop (mkF m 240 #[.val (.int p1), .val (.int p2), .val (.int p3), .val (.int (p2 &&& (3 : Int32))), .val (.int p3.toInt8.toInt32), .val (.ref o1), .val (.int (f0_9 p1 p2 p3)), .val (.int (f2 p1))] [(.int (if (f0_12 p1 p2 p3) = (0 : Int32) then (0 : Int32) else (f0_21 p1 p2 p3)))])) t → Steps p.tables e below (T18.setTop (mkF m 139 #[.val (.int p1), .val (.int p2), .val (.int p3), .val (.int (p2 &&& (3 : Int32))), .val (.int p3.toInt8.toInt32), .val (.ref o1), .val (.int (f0_9 p1 p2 p3)), .val (.int (f2 p1))] [(.int (f0_12 p1 p2 p3))])) t := by
              by_cases h19 : (f0_12 p1 p2 p3) = (0 : Int32)
              · refine ⟨T18, _, X18, e18, N18, fun t k => ?_⟩
                rw [show (if (f0_12 p1 p2 p3) = (0 : Int32) then (0 : Int32) else (f0_21 p1 p2 p3)) = (0 : Int32) from if_pos h19] at k
                show Steps p.tables e below (T18.setTop (mkF m 139 #[.val (.int p1), .val (.int p2), .val (.int p3), .val (.int (p2 &&& (3 : Int32))), .val (.int p3.toInt8.toInt32), .val (.ref o1), .val (.int (f0_9 p1 p2 p3)), .val (.int (f2 p1))] [(.int (f0_12 p1 p2 p3))])) _
                refine XS.ifYes X18.here hx rfl (pc0 := 139) (pc' := 239) rfl (hb hby at_139) rfl ((if0 _ _).trans (teq h19).1) (by decide) (by decide) ?_
                show Steps p.tables e below (T18.setTop (mkF m 239 #[.val (.int p1), .val (.int p2), .val (.int p3), .val (.int (p2 &&& (3 : Int32))), .val (.int p3.toInt8.toInt32), .val (.ref o1), .val (.int (f0_9 p1 p2 p3)), .val (.int (f2 p1))] [])) _
                refine XS.iconst X18.here hx rfl (hb hby at_239) ?_
                exact k
              · obtain ⟨_, _, ⟨T20, L20, k20, n20⟩, -, X20, ⟨Lc20, hQ20, l20, y20, z20⟩, st20⟩ := Jvm.LawKit.callS X18 hx (y := (⟨"com/example/stratum/stratum/index/PostingsPutVarIntPinLaw", "ok", "([BIIIIB)Z"⟩ : MethodName)) hown (mvT hZ (hw _ (List.mem_of_getElem? (i := 9) rfl))) (mvT hZ (hw _ (List.mem_of_getElem? (i := 10) rfl))) (mvT hZ (hw _ (List.mem_of_getElem? (i := 7) rfl))) (mvT hZ (hw _ (List.mem_of_getElem? (i := 11) rfl))) (by decide) (backOf (W := 0) (rmok3 l Z a0 hw [] o1 (p2 &&& (3 : Int32)) (f2 p1) p1 p3.toInt8.toInt32 kc1 (f0_0 p1 p2 p3) (f0_1 p1 p2 p3) (f0_2 p1 p2 p3) (f0_3 p1 p2 p3) (f0_4 p1 p2 p3) (f0_5 p1 p2 p3) (f0_6 p1 p2 p3) (f0_7 p1 p2 p3) (f0_8 p1 p2 p3) T11.heap n0 Z11 c11_0') hZ (hw _ (List.mem_of_getElem? (i := 11) rfl)) (hw _ (List.mem_of_getElem? (i := 7) rfl)) (by decide) (by decide)) (g := (mkF m 151 #[.val (.int p1), .val (.int p2), .val (.int p3), .val (.int (p2 &&& (3 : Int32))), .val (.int p3.toInt8.toInt32), .val (.ref o1), .val (.int (f0_9 p1 p2 p3)), .val (.int (f2 p1))] [(.int p3.toInt8.toInt32), (.int p1), (.int (f2 p1)), (.int (p2 &&& (3 : Int32))), (.int (3 : Int32)), (.ref o1)])) rfl (by rw [hml]; rfl) (argsL := [(.ref o1), (.int (3 : Int32)), (.int (p2 &&& (3 : Int32))), (.int (f2 p1)), (.int p1), (.int p3.toInt8.toInt32)]) (rest := []) (lenOf pd_2 rfl) rfl (by show 2 * 0 + _ ≤ _; exact Nat.le_of_eq rfl) (hb hby at_151) (fun _ _ => ⟨rfl, e18, (by decide : 1 + 0 ≤ _), (by decide : 9 + 0 ≤ _)⟩)
                dsimp only [Pt.U, Pt.locs, Pt.cells, Pt.slots] at X20 l20 y20 z20 st20 hQ20
                subst l20 y20 z20
                obtain ⟨rfl, N20q, e20⟩ := hQ20
                have N20 := Fr.app N18 N20q
                obtain ⟨T37, lo37, X37, e37, N37, st37⟩ : ∃ (T' : State) (lo : List Loc) (_ : Stand p l e room_1 s m #[(.int p1), (.int p2), (.int p3)] below meth c T' lo 1 9), T'.heap = T11.heap ∧ Fr n0 lo ∧ ∀ t, Steps p.tables e below (T'.setTop (mkF m 240 #[.val (.int p1), .val (.int p2), .val (.int p3), .val (.int (p2 &&& (3 : Int32))), .val (.int p3.toInt8.toInt32), .val (.ref o1), .val (.int (f0_9 p1 p2 p3)), .val (.int (f2 p1))] [(.int (f0_21 p1 p2 p3))])) t → Steps p.tables e below (T20.setTop (mkF m 154 #[.val (.int p1), .val (.int p2), .val (.int p3), .val (.int (p2 &&& (3 : Int32))), .val (.int p3.toInt8.toInt32), .val (.ref o1), .val (.int (f0_9 p1 p2 p3)), .val (.int (f2 p1))] [(.int (f0_13 p1 p2 p3))])) t := by
                  by_cases h21 : (f0_13 p1 p2 p3) = (0 : Int32)
                  · refine ⟨T20, _, X20, e20, N20, fun t k => ?_⟩
                    rw [show (f0_21 p1 p2 p3) = (0 : Int32) from if_pos h21] at k
                    show Steps p.tables e below (T20.setTop (mkF m 154 #[.val (.int p1), .val (.int p2), .val (.int p3), .val (.int (p2 &&& (3 : Int32))), .val (.int p3.toInt8.toInt32), .val (.ref o1), .val (.int (f0_9 p1 p2 p3)), .val (.int (f2 p1))] [(.int (f0_13 p1 p2 p3))])) _
                    refine XS.ifYes X20.here hx rfl (pc0 := 154) (pc' := 239) rfl (hb hby at_154) rfl ((if0 _ _).trans (teq h21).1) (by decide) (by decide) ?_
                    show Steps p.tables e below (T20.setTop (mkF m 239 #[.val (.int p1), .val (.int p2), .val (.int p3), .val (.int (p2 &&& (3 : Int32))), .val (.int p3.toInt8.toInt32), .val (.ref o1), .val (.int (f0_9 p1 p2 p3)), .val (.int (f2 p1))] [])) _
                    refine XS.iconst X20.here hx rfl (hb hby at_239) ?_
                    exact k
                  · obtain ⟨_, _, ⟨T22, L22, k22, n22⟩, -, X22, ⟨Lc22, hQ22, l22, y22, z22⟩, st22⟩ := Jvm.LawKit.callS X20 hx (y := (⟨"com/example/stratum/stratum/index/PostingsPutVarIntPinLaw", "ok", "([BIIIIB)Z"⟩ : MethodName)) hown (mvT hZ (hw _ (List.mem_of_getElem? (i := 9) rfl))) (mvT hZ (hw _ (List.mem_of_getElem? (i := 10) rfl))) (mvT hZ (hw _ (List.mem_of_getElem? (i := 7) rfl))) (mvT hZ (hw _ (List.mem_of_getElem? (i := 11) rfl))) (by decide) (backOf (W := 0) (rmok4 l Z a0 hw [] o1 (p2 &&& (3 : Int32)) (f2 p1) p1 p3.toInt8.toInt32 kc1 (f0_0 p1 p2 p3) (f0_1 p1 p2 p3) (f0_2 p1 p2 p3) (f0_3 p1 p2 p3) (f0_4 p1 p2 p3) (f0_5 p1 p2 p3) (f0_6 p1 p2 p3) (f0_7 p1 p2 p3) (f0_8 p1 p2 p3) T11.heap n0 Z11 c11_0') hZ (hw _ (List.mem_of_getElem? (i := 11) rfl)) (hw _ (List.mem_of_getElem? (i := 7) rfl)) (by decide) (by decide)) (g := (mkF m 166 #[.val (.int p1), .val (.int p2), .val (.int p3), .val (.int (p2 &&& (3 : Int32))), .val (.int p3.toInt8.toInt32), .val (.ref o1), .val (.int (f0_9 p1 p2 p3)), .val (.int (f2 p1))] [(.int p3.toInt8.toInt32), (.int p1), (.int (f2 p1)), (.int (p2 &&& (3 : Int32))), (.int (4 : Int32)), (.ref o1)])) rfl (by rw [hml]; rfl) (argsL := [(.ref o1), (.int (4 : Int32)), (.int (p2 &&& (3 : Int32))), (.int (f2 p1)), (.int p1), (.int p3.toInt8.toInt32)]) (rest := []) (lenOf pd_2 rfl) rfl (by show 2 * 0 + _ ≤ _; exact Nat.le_of_eq rfl) (hb hby at_166) (fun _ _ => ⟨rfl, e20, (by decide : 1 + 0 ≤ _), (by decide : 9 + 0 ≤ _)⟩)
                    dsimp only [Pt.U, Pt.locs, Pt.cells, Pt.slots] at X22 l22 y22 z22 st22 hQ22
                    subst l22 y22 z22
                    obtain ⟨rfl, N22q, e22⟩ := hQ22
                    have N22 := Fr.app N20 N22q
                    obtain ⟨T36, lo36, X36, e36, N36, st36⟩ : ∃ (T' : State) (lo : List Loc) (_ : Stand p l e room_1 s m #[(.int p1), (.int p2), (.int p3)] below meth c T' lo 1 9), T'.heap = T11.heap ∧ Fr n0 lo ∧ ∀ t, Steps p.tables e below (T'.setTop (mkF m 240 #[.val (.int p1), .val (.int p2), .val (.int p3), .val (.int (p2 &&& (3 : Int32))), .val (.int p3.toInt8.toInt32), .val (.ref o1), .val (.int (f0_9 p1 p2 p3)), .val (.int (f2 p1))] [(.int (if (f0_14 p1 p2 p3) = (0 : Int32) then (0 : Int32) else (f0_20 p1 p2 p3)))])) t → Steps p.tables e below (T22.setTop (mkF m 169 #[.val (.int p1), .val (.int p2), .val (.int p3), .val (.int (p2 &&& (3 : Int32))), .val (.int p3.toInt8.toInt32), .val (.ref o1), .val (.int (f0_9 p1 p2 p3)), .val (.int (f2 p1))] [(.int (f0_14 p1 p2 p3))])) t := by
                      by_cases h23 : (f0_14 p1 p2 p3) = (0 : Int32)
                      · refine ⟨T22, _, X22, e22, N22, fun t k => ?_⟩
                        rw [show (if (f0_14 p1 p2 p3) = (0 : Int32) then (0 : Int32) else (f0_20 p1 p2 p3)) = (0 : Int32) from if_pos h23] at k
                        show Steps p.tables e below (T22.setTop (mkF m 169 #[.val (.int p1), .val (.int p2), .val (.int p3), .val (.int (p2 &&& (3 : Int32))), .val (.int p3.toInt8.toInt32), .val (.ref o1), .val (.int (f0_9 p1 p2 p3)), .val (.int (f2 p1))] [(.int (f0_14 p1 p2 p3))])) _
                        refine XS.ifYes X22.here hx rfl (pc0 := 169) (pc' := 239) rfl (hb hby at_169) rfl ((if0 _ _).trans (teq h23).1) (by decide) (by decide) ?_
                        show Steps p.tables e below (T22.setTop (mkF m 239 #[.val (.int p1), .val (.int p2), .val (.int p3), .val (.int (p2 &&& (3 : Int32))), .val (.int p3.toInt8.toInt32), .val (.ref o1), .val (.int (f0_9 p1 p2 p3)), .val (.int (f2 p1))] [])) _
                        refine XS.iconst X22.here hx rfl (hb hby at_239) ?_
                        exact k
                      · obtain ⟨_, _, ⟨T24, L24, k24, n24⟩, -, X24, ⟨Lc24, hQ24, l24, y24, z24⟩, st24⟩ := Jvm.LawKit.callS X22 hx (y := (⟨"com/example/stratum/stratum/index/PostingsPutVarIntPinLaw", "ok", "([BIIIIB)Z"⟩ : MethodName)) hown (mvT hZ (hw _ (List.mem_of_getElem? (i := 9) rfl))) (mvT hZ (hw _ (List.mem_of_getElem? (i := 10) rfl))) (mvT hZ (hw _ (List.mem_of_getElem? (i := 7) rfl))) (mvT hZ (hw _ (List.mem_of_getElem? (i := 11) rfl))) (by decide) (backOf (W := 0) (rmok5 l Z a0 hw [] o1 (p2 &&& (3 : Int32)) (f2 p1) p1 p3.toInt8.toInt32 kc1 (f0_0 p1 p2 p3) (f0_1 p1 p2 p3) (f0_2 p1 p2 p3) (f0_3 p1 p2 p3) (f0_4 p1 p2 p3) (f0_5 p1 p2 p3) (f0_6 p1 p2 p3) (f0_7 p1 p2 p3) (f0_8 p1 p2 p3) T11.heap n0 Z11 c11_0') hZ (hw _ (List.mem_of_getElem? (i := 11) rfl)) (hw _ (List.mem_of_getElem? (i := 7) rfl)) (by decide) (by decide)) (g := (mkF m 181 #[.val (.int p1), .val (.int p2), .val (.int p3), .val (.int (p2 &&& (3 : Int32))), .val (.int p3.toInt8.toInt32), .val (.ref o1), .val (.int (f0_9 p1 p2 p3)), .val (.int (f2 p1))] [(.int p3.toInt8.toInt32), (.int p1), (.int (f2 p1)), (.int (p2 &&& (3 : Int32))), (.int (5 : Int32)), (.ref o1)])) rfl (by rw [hml]; rfl) (argsL := [(.ref o1), (.int (5 : Int32)), (.int (p2 &&& (3 : Int32))), (.int (f2 p1)), (.int p1), (.int p3.toInt8.toInt32)]) (rest := []) (lenOf pd_2 rfl) rfl (by show 2 * 0 + _ ≤ _; exact Nat.le_of_eq rfl) (hb hby at_181) (fun _ _ => ⟨rfl, e22, (by decide : 1 + 0 ≤ _), (by decide : 9 + 0 ≤ _)⟩)
                        dsimp only [Pt.U, Pt.locs, Pt.cells, Pt.slots] at X24 l24 y24 z24 st24 hQ24
                        subst l24 y24 z24
                        obtain ⟨rfl, N24q, e24⟩ := hQ24
                        have N24 := Fr.app N22 N24q
                        obtain ⟨T35, lo35, X35, e35, N35, st35⟩ : ∃ (T' : State) (lo : List Loc) (_ : Stand p l e room_1 s m #[(.int p1), (.int p2), (.int p3)] below meth c T' lo 1 9), T'.heap = T11.heap ∧ Fr n0 lo ∧ ∀ t, Steps p.tables e below (T'.setTop (mkF m 240 #[.val (.int p1), .val (.int p2), .val (.int p3), .val (.int (p2 &&& (3 : Int32))), .val (.int p3.toInt8.toInt32), .val (.ref o1), .val (.int (f0_9 p1 p2 p3)), .val (.int (f2 p1))] [(.int (f0_20 p1 p2 p3))])) t → Steps p.tables e below (T24.setTop (mkF m 184 #[.val (.int p1), .val (.int p2), .val (.int p3), .val (.int (p2 &&& (3 : Int32))), .val (.int p3.toInt8.toInt32), .val (.ref o1), .val (.int (f0_9 p1 p2 p3)), .val (.int (f2 p1))] [(.int (f0_15 p1 p2 p3))])) t := by
                          by_cases h25 : (f0_15 p1 p2 p3) = (0 : Int32)
                          · refine ⟨T24, _, X24, e24, N24, fun t k => ?_⟩
                            rw [show (f0_20 p1 p2 p3) = (0 : Int32) from if_pos h25] at k
                            show Steps p.tables e below (T24.setTop (mkF m 184 #[.val (.int p1), .val (.int p2), .val (.int p3), .val (.int (p2 &&& (3 : Int32))), .val (.int p3.toInt8.toInt32), .val (.ref o1), .val (.int (f0_9 p1 p2 p3)), .val (.int (f2 p1))] [(.int (f0_15 p1 p2 p3))])) _
                            refine XS.ifYes X24.here hx rfl (pc0 := 184) (pc' := 239) rfl (hb hby at_184) rfl ((if0 _ _).trans (teq h25).1) (by decide) (by decide) ?_
                            show Steps p.tables e below (T24.setTop (mkF m 239 #[.val (.int p1), .val (.int p2), .val (.int p3), .val (.int (p2 &&& (3 : Int32))), .val (.int p3.toInt8.toInt32), .val (.ref o1), .val (.int (f0_9 p1 p2 p3)), .val (.int (f2 p1))] [])) _
                            refine XS.iconst X24.here hx rfl (hb hby at_239) ?_
                            exact k
                          · obtain ⟨_, _, ⟨T26, L26, k26, n26⟩, -, X26, ⟨Lc26, hQ26, l26, y26, z26⟩, st26⟩ := Jvm.LawKit.callS X24 hx (y := (⟨"com/example/stratum/stratum/index/PostingsPutVarIntPinLaw", "ok", "([BIIIIB)Z"⟩ : MethodName)) hown (mvT hZ (hw _ (List.mem_of_getElem? (i := 9) rfl))) (mvT hZ (hw _ (List.mem_of_getElem? (i := 10) rfl))) (mvT hZ (hw _ (List.mem_of_getElem? (i := 7) rfl))) (mvT hZ (hw _ (List.mem_of_getElem? (i := 11) rfl))) (by decide) (backOf (W := 0) (rmok6 l Z a0 hw [] o1 (p2 &&& (3 : Int32)) (f2 p1) p1 p3.toInt8.toInt32 kc1 (f0_0 p1 p2 p3) (f0_1 p1 p2 p3) (f0_2 p1 p2 p3) (f0_3 p1 p2 p3) (f0_4 p1 p2 p3) (f0_5 p1 p2 p3) (f0_6 p1 p2 p3) (f0_7 p1 p2 p3) (f0_8 p1 p2 p3) T11.heap n0 Z11 c11_0') hZ (hw _ (List.mem_of_getElem? (i := 11) rfl)) (hw _ (List.mem_of_getElem? (i := 7) rfl)) (by decide) (by decide)) (g := (mkF m 197 #[.val (.int p1), .val (.int p2), .val (.int p3), .val (.int (p2 &&& (3 : Int32))), .val (.int p3.toInt8.toInt32), .val (.ref o1), .val (.int (f0_9 p1 p2 p3)), .val (.int (f2 p1))] [(.int p3.toInt8.toInt32), (.int p1), (.int (f2 p1)), (.int (p2 &&& (3 : Int32))), (.int (6 : Int32)), (.ref o1)])) rfl (by rw [hml]; rfl) (argsL := [(.ref o1), (.int (6 : Int32)), (.int (p2 &&& (3 : Int32))), (.int (f2 p1)), (.int p1), (.int p3.toInt8.toInt32)]) (rest := []) (lenOf pd_2 rfl) rfl (by show 2 * 0 + _ ≤ _; exact Nat.le_of_eq rfl) (hb hby at_197) (fun _ _ => ⟨rfl, e24, (by decide : 1 + 0 ≤ _), (by decide : 9 + 0 ≤ _)⟩)
                            dsimp only [Pt.U, Pt.locs, Pt.cells, Pt.slots] at X26 l26 y26 z26 st26 hQ26
                            subst l26 y26 z26
                            obtain ⟨rfl, N26q, e26⟩ := hQ26
                            have N26 := Fr.app N24 N26q
                            obtain ⟨T34, lo34, X34, e34, N34, st34⟩ : ∃ (T' : State) (lo : List Loc) (_ : Stand p l e room_1 s m #[(.int p1), (.int p2), (.int p3)] below meth c T' lo 1 9), T'.heap = T11.heap ∧ Fr n0 lo ∧ ∀ t, Steps p.tables e below (T'.setTop (mkF m 240 #[.val (.int p1), .val (.int p2), .val (.int p3), .val (.int (p2 &&& (3 : Int32))), .val (.int p3.toInt8.toInt32), .val (.ref o1), .val (.int (f0_9 p1 p2 p3)), .val (.int (f2 p1))] [(.int (if (f0_16 p1 p2 p3) = (0 : Int32) then (0 : Int32) else (f0_19 p1 p2 p3)))])) t → Steps p.tables e below (T26.setTop (mkF m 200 #[.val (.int p1), .val (.int p2), .val (.int p3), .val (.int (p2 &&& (3 : Int32))), .val (.int p3.toInt8.toInt32), .val (.ref o1), .val (.int (f0_9 p1 p2 p3)), .val (.int (f2 p1))] [(.int (f0_16 p1 p2 p3))])) t := by
                              by_cases h27 : (f0_16 p1 p2 p3) = (0 : Int32)
                              · refine ⟨T26, _, X26, e26, N26, fun t k => ?_⟩
                                rw [show (if (f0_16 p1 p2 p3) = (0 : Int32) then (0 : Int32) else (f0_19 p1 p2 p3)) = (0 : Int32) from if_pos h27] at k
                                show Steps p.tables e below (T26.setTop (mkF m 200 #[.val (.int p1), .val (.int p2), .val (.int p3), .val (.int (p2 &&& (3 : Int32))), .val (.int p3.toInt8.toInt32), .val (.ref o1), .val (.int (f0_9 p1 p2 p3)), .val (.int (f2 p1))] [(.int (f0_16 p1 p2 p3))])) _
                                refine XS.ifYes X26.here hx rfl (pc0 := 200) (pc' := 239) rfl (hb hby at_200) rfl ((if0 _ _).trans (teq h27).1) (by decide) (by decide) ?_
                                show Steps p.tables e below (T26.setTop (mkF m 239 #[.val (.int p1), .val (.int p2), .val (.int p3), .val (.int (p2 &&& (3 : Int32))), .val (.int p3.toInt8.toInt32), .val (.ref o1), .val (.int (f0_9 p1 p2 p3)), .val (.int (f2 p1))] [])) _
                                refine XS.iconst X26.here hx rfl (hb hby at_239) ?_
                                exact k
                              · obtain ⟨_, _, ⟨T28, L28, k28, n28⟩, -, X28, ⟨Lc28, hQ28, l28, y28, z28⟩, st28⟩ := Jvm.LawKit.callS X26 hx (y := (⟨"com/example/stratum/stratum/index/PostingsPutVarIntPinLaw", "ok", "([BIIIIB)Z"⟩ : MethodName)) hown (mvT hZ (hw _ (List.mem_of_getElem? (i := 9) rfl))) (mvT hZ (hw _ (List.mem_of_getElem? (i := 10) rfl))) (mvT hZ (hw _ (List.mem_of_getElem? (i := 7) rfl))) (mvT hZ (hw _ (List.mem_of_getElem? (i := 11) rfl))) (by decide) (backOf (W := 0) (rmok7 l Z a0 hw [] o1 (p2 &&& (3 : Int32)) (f2 p1) p1 p3.toInt8.toInt32 kc1 (f0_0 p1 p2 p3) (f0_1 p1 p2 p3) (f0_2 p1 p2 p3) (f0_3 p1 p2 p3) (f0_4 p1 p2 p3) (f0_5 p1 p2 p3) (f0_6 p1 p2 p3) (f0_7 p1 p2 p3) (f0_8 p1 p2 p3) T11.heap n0 Z11 c11_0') hZ (hw _ (List.mem_of_getElem? (i := 11) rfl)) (hw _ (List.mem_of_getElem? (i := 7) rfl)) (by decide) (by decide)) (g := (mkF m 213 #[.val (.int p1), .val (.int p2), .val (.int p3), .val (.int (p2 &&& (3 : Int32))), .val (.int p3.toInt8.toInt32), .val (.ref o1), .val (.int (f0_9 p1 p2 p3)), .val (.int (f2 p1))] [(.int p3.toInt8.toInt32), (.int p1), (.int (f2 p1)), (.int (p2 &&& (3 : Int32))), (.int (7 : Int32)), (.ref o1)])) rfl (by rw [hml]; rfl) (argsL := [(.ref o1), (.int (7 : Int32)), (.int (p2 &&& (3 : Int32))), (.int (f2 p1)), (.int p1), (.int p3.toInt8.toInt32)]) (rest := []) (lenOf pd_2 rfl) rfl (by show 2 * 0 + _ ≤ _; exact Nat.le_of_eq rfl) (hb hby at_213) (fun _ _ => ⟨rfl, e26, (by decide : 1 + 0 ≤ _), (by decide : 9 + 0 ≤ _)⟩)
                                dsimp only [Pt.U, Pt.locs, Pt.cells, Pt.slots] at X28 l28 y28 z28 st28 hQ28
                                subst l28 y28 z28
                                obtain ⟨rfl, N28q, e28⟩ := hQ28
                                have N28 := Fr.app N26 N28q
                                obtain ⟨T33, lo33, X33, e33, N33, st33⟩ : ∃ (T' : State) (lo : List Loc) (_ : Stand p l e room_1 s m #[(.int p1), (.int p2), (.int p3)] below meth c T' lo 1 9), T'.heap = T11.heap ∧ Fr n0 lo ∧ ∀ t, Steps p.tables e below (T'.setTop (mkF m 240 #[.val (.int p1), .val (.int p2), .val (.int p3), .val (.int (p2 &&& (3 : Int32))), .val (.int p3.toInt8.toInt32), .val (.ref o1), .val (.int (f0_9 p1 p2 p3)), .val (.int (f2 p1))] [(.int (f0_19 p1 p2 p3))])) t → Steps p.tables e below (T28.setTop (mkF m 216 #[.val (.int p1), .val (.int p2), .val (.int p3), .val (.int (p2 &&& (3 : Int32))), .val (.int p3.toInt8.toInt32), .val (.ref o1), .val (.int (f0_9 p1 p2 p3)), .val (.int (f2 p1))] [(.int (f0_17 p1 p2 p3))])) t := by
                                  by_cases h29 : (f0_17 p1 p2 p3) = (0 : Int32)
                                  · refine ⟨T28, _, X28, e28, N28, fun t k => ?_⟩
                                    rw [show (f0_19 p1 p2 p3) = (0 : Int32) from if_pos h29] at k
                                    show Steps p.tables e below (T28.setTop (mkF m 216 #[.val (.int p1), .val (.int p2), .val (.int p3), .val (.int (p2 &&& (3 : Int32))), .val (.int p3.toInt8.toInt32), .val (.ref o1), .val (.int (f0_9 p1 p2 p3)), .val (.int (f2 p1))] [(.int (f0_17 p1 p2 p3))])) _
                                    refine XS.ifYes X28.here hx rfl (pc0 := 216) (pc' := 239) rfl (hb hby at_216) rfl ((if0 _ _).trans (teq h29).1) (by decide) (by decide) ?_
                                    show Steps p.tables e below (T28.setTop (mkF m 239 #[.val (.int p1), .val (.int p2), .val (.int p3), .val (.int (p2 &&& (3 : Int32))), .val (.int p3.toInt8.toInt32), .val (.ref o1), .val (.int (f0_9 p1 p2 p3)), .val (.int (f2 p1))] [])) _
                                    refine XS.iconst X28.here hx rfl (hb hby at_239) ?_
                                    exact k
                                  · obtain ⟨_, _, ⟨T30, L30, k30, n30⟩, -, X30, ⟨Lc30, hQ30, l30, y30, z30⟩, st30⟩ := Jvm.LawKit.callS X28 hx (y := (⟨"com/example/stratum/stratum/index/PostingsPutVarIntPinLaw", "ok", "([BIIIIB)Z"⟩ : MethodName)) hown (mvT hZ (hw _ (List.mem_of_getElem? (i := 9) rfl))) (mvT hZ (hw _ (List.mem_of_getElem? (i := 10) rfl))) (mvT hZ (hw _ (List.mem_of_getElem? (i := 7) rfl))) (mvT hZ (hw _ (List.mem_of_getElem? (i := 11) rfl))) (by decide) (backOf (W := 0) (rmok8 l Z a0 hw [] o1 (p2 &&& (3 : Int32)) (f2 p1) p1 p3.toInt8.toInt32 kc1 (f0_0 p1 p2 p3) (f0_1 p1 p2 p3) (f0_2 p1 p2 p3) (f0_3 p1 p2 p3) (f0_4 p1 p2 p3) (f0_5 p1 p2 p3) (f0_6 p1 p2 p3) (f0_7 p1 p2 p3) (f0_8 p1 p2 p3) T11.heap n0 Z11 c11_0') hZ (hw _ (List.mem_of_getElem? (i := 11) rfl)) (hw _ (List.mem_of_getElem? (i := 7) rfl)) (by decide) (by decide)) (g := (mkF m 229 #[.val (.int p1), .val (.int p2), .val (.int p3), .val (.int (p2 &&& (3 : Int32))), .val (.int p3.toInt8.toInt32), .val (.ref o1), .val (.int (f0_9 p1 p2 p3)), .val (.int (f2 p1))] [(.int p3.toInt8.toInt32), (.int p1), (.int (f2 p1)), (.int (p2 &&& (3 : Int32))), (.int (8 : Int32)), (.ref o1)])) rfl (by rw [hml]; rfl) (argsL := [(.ref o1), (.int (8 : Int32)), (.int (p2 &&& (3 : Int32))), (.int (f2 p1)), (.int p1), (.int p3.toInt8.toInt32)]) (rest := []) (lenOf pd_2 rfl) rfl (by show 2 * 0 + _ ≤ _; exact Nat.le_of_eq rfl) (hb hby at_229) (fun _ _ => ⟨rfl, e28, (by decide : 1 + 0 ≤ _), (by decide : 9 + 0 ≤ _)⟩)
                                    dsimp only [Pt.U, Pt.locs, Pt.cells, Pt.slots] at X30 l30 y30 z30 st30 hQ30
                                    subst l30 y30 z30
                                    obtain ⟨rfl, N30q, e30⟩ := hQ30
                                    have N30 := Fr.app N28 N30q
                                    have st32 : ∀ t, Steps p.tables e below (T30.setTop (mkF m 240 #[.val (.int p1), .val (.int p2), .val (.int p3), .val (.int (p2 &&& (3 : Int32))), .val (.int p3.toInt8.toInt32), .val (.ref o1), .val (.int (f0_9 p1 p2 p3)), .val (.int (f2 p1))] [(.int (if (f0_18 p1 p2 p3) = (0 : Int32) then (0 : Int32) else (1 : Int32)))])) t → Steps p.tables e below (T30.setTop (mkF m 232 #[.val (.int p1), .val (.int p2), .val (.int p3), .val (.int (p2 &&& (3 : Int32))), .val (.int p3.toInt8.toInt32), .val (.ref o1), .val (.int (f0_9 p1 p2 p3)), .val (.int (f2 p1))] [(.int (f0_18 p1 p2 p3))])) t := by
                                      intro t k
                                      by_cases h31 : (f0_18 p1 p2 p3) = (0 : Int32)
                                      · rw [show (if (f0_18 p1 p2 p3) = (0 : Int32) then (0 : Int32) else (1 : Int32)) = (0 : Int32) from if_pos h31] at k
                                        show Steps p.tables e below (T30.setTop (mkF m 232 #[.val (.int p1), .val (.int p2), .val (.int p3), .val (.int (p2 &&& (3 : Int32))), .val (.int p3.toInt8.toInt32), .val (.ref o1), .val (.int (f0_9 p1 p2 p3)), .val (.int (f2 p1))] [(.int (f0_18 p1 p2 p3))])) _
                                        refine XS.ifYes X30.here hx rfl (pc0 := 232) (pc' := 239) rfl (hb hby at_232) rfl ((if0 _ _).trans (teq h31).1) (by decide) (by decide) ?_
                                        show Steps p.tables e below (T30.setTop (mkF m 239 #[.val (.int p1), .val (.int p2), .val (.int p3), .val (.int (p2 &&& (3 : Int32))), .val (.int p3.toInt8.toInt32), .val (.ref o1), .val (.int (f0_9 p1 p2 p3)), .val (.int (f2 p1))] [])) _
                                        refine XS.iconst X30.here hx rfl (hb hby at_239) ?_
                                        exact k
                                      · rw [show (if (f0_18 p1 p2 p3) = (0 : Int32) then (0 : Int32) else (1 : Int32)) = (1 : Int32) from if_neg h31] at k
                                        show Steps p.tables e below (T30.setTop (mkF m 232 #[.val (.int p1), .val (.int p2), .val (.int p3), .val (.int (p2 &&& (3 : Int32))), .val (.int p3.toInt8.toInt32), .val (.ref o1), .val (.int (f0_9 p1 p2 p3)), .val (.int (f2 p1))] [(.int (f0_18 p1 p2 p3))])) _
                                        refine XS.ifNo X30.here hx rfl (hb hby at_232) rfl ((if0 _ _).trans (feq h31).1) ?_
                                        show Steps p.tables e below (T30.setTop (mkF m 235 #[.val (.int p1), .val (.int p2), .val (.int p3), .val (.int (p2 &&& (3 : Int32))), .val (.int p3.toInt8.toInt32), .val (.ref o1), .val (.int (f0_9 p1 p2 p3)), .val (.int (f2 p1))] [])) _
                                        refine XS.iconst X30.here hx rfl (hb hby at_235) ?_
                                        show Steps p.tables e below (T30.setTop (mkF m 236 #[.val (.int p1), .val (.int p2), .val (.int p3), .val (.int (p2 &&& (3 : Int32))), .val (.int p3.toInt8.toInt32), .val (.ref o1), .val (.int (f0_9 p1 p2 p3)), .val (.int (f2 p1))] [(.int (1 : Int32))])) _
                                        refine XS.goto X30.here hx rfl (pc0 := 236) (pc' := 240) rfl (hb hby at_236) (by decide) (by decide) ?_
                                        exact k
                                    refine ⟨T30, _, X30, e30, N30, fun t k => ?_⟩
                                    rw [show (f0_19 p1 p2 p3) = (if (f0_18 p1 p2 p3) = (0 : Int32) then (0 : Int32) else (1 : Int32)) from if_neg h29] at k
                                    show Steps p.tables e below (T28.setTop (mkF m 216 #[.val (.int p1), .val (.int p2), .val (.int p3), .val (.int (p2 &&& (3 : Int32))), .val (.int p3.toInt8.toInt32), .val (.ref o1), .val (.int (f0_9 p1 p2 p3)), .val (.int (f2 p1))] [(.int (f0_17 p1 p2 p3))])) _
                                    refine XS.ifNo X28.here hx rfl (hb hby at_216) rfl ((if0 _ _).trans (feq h29).1) ?_
                                    show Steps p.tables e below (T28.setTop (mkF m 219 #[.val (.int p1), .val (.int p2), .val (.int p3), .val (.int (p2 &&& (3 : Int32))), .val (.int p3.toInt8.toInt32), .val (.ref o1), .val (.int (f0_9 p1 p2 p3)), .val (.int (f2 p1))] [])) _
                                    refine XS.aload X28.here hx rfl (hb hby at_219) rfl rfl ?_
                                    show Steps p.tables e below (T28.setTop (mkF m 221 #[.val (.int p1), .val (.int p2), .val (.int p3), .val (.int (p2 &&& (3 : Int32))), .val (.int p3.toInt8.toInt32), .val (.ref o1), .val (.int (f0_9 p1 p2 p3)), .val (.int (f2 p1))] [(.ref o1)])) _
                                    refine XS.bipush X28.here hx rfl (hb hby at_221) ?_
                                    show Steps p.tables e below (T28.setTop (mkF m 223 #[.val (.int p1), .val (.int p2), .val (.int p3), .val (.int (p2 &&& (3 : Int32))), .val (.int p3.toInt8.toInt32), .val (.ref o1), .val (.int (f0_9 p1 p2 p3)), .val (.int (f2 p1))] [(.int (8 : Int32)), (.ref o1)])) _
                                    refine XS.iloadN X28.here hx rfl (hb hby at_223) rfl ?_
                                    show Steps p.tables e below (T28.setTop (mkF m 224 #[.val (.int p1), .val (.int p2), .val (.int p3), .val (.int (p2 &&& (3 : Int32))), .val (.int p3.toInt8.toInt32), .val (.ref o1), .val (.int (f0_9 p1 p2 p3)), .val (.int (f2 p1))] [(.int (p2 &&& (3 : Int32))), (.int (8 : Int32)), (.ref o1)])) _
                                    refine XS.iload X28.here hx rfl (hb hby at_224) rfl ?_
                                    show Steps p.tables e below (T28.setTop (mkF m 226 #[.val (.int p1), .val (.int p2), .val (.int p3), .val (.int (p2 &&& (3 : Int32))), .val (.int p3.toInt8.toInt32), .val (.ref o1), .val (.int (f0_9 p1 p2 p3)), .val (.int (f2 p1))] [(.int (f2 p1)), (.int (p2 &&& (3 : Int32))), (.int (8 : Int32)), (.ref o1)])) _
                                    refine XS.iloadN X28.here hx rfl (hb hby at_226) rfl ?_
                                    show Steps p.tables e below (T28.setTop (mkF m 227 #[.val (.int p1), .val (.int p2), .val (.int p3), .val (.int (p2 &&& (3 : Int32))), .val (.int p3.toInt8.toInt32), .val (.ref o1), .val (.int (f0_9 p1 p2 p3)), .val (.int (f2 p1))] [(.int p1), (.int (f2 p1)), (.int (p2 &&& (3 : Int32))), (.int (8 : Int32)), (.ref o1)])) _
                                    refine XS.iload X28.here hx rfl (hb hby at_227) rfl ?_
                                    show Steps p.tables e below (T28.setTop (mkF m 229 #[.val (.int p1), .val (.int p2), .val (.int p3), .val (.int (p2 &&& (3 : Int32))), .val (.int p3.toInt8.toInt32), .val (.ref o1), .val (.int (f0_9 p1 p2 p3)), .val (.int (f2 p1))] [(.int p3.toInt8.toInt32), (.int p1), (.int (f2 p1)), (.int (p2 &&& (3 : Int32))), (.int (8 : Int32)), (.ref o1)])) _
                                    refine st30 _ ?_
                                    show Steps p.tables e below (T30.setTop (mkF m 232 #[.val (.int p1), .val (.int p2), .val (.int p3), .val (.int (p2 &&& (3 : Int32))), .val (.int p3.toInt8.toInt32), .val (.ref o1), .val (.int (f0_9 p1 p2 p3)), .val (.int (f2 p1))] [(.int (f0_18 p1 p2 p3))])) _
                                    refine st32 _ ?_
                                    exact k
                                refine ⟨T33, _, X33, e33, N33, fun t k => ?_⟩
                                rw [show (if (f0_16 p1 p2 p3) = (0 : Int32) then (0 : Int32) else (f0_19 p1 p2 p3)) = (f0_19 p1 p2 p3) from if_neg h27] at k
                                show Steps p.tables e below (T26.setTop (mkF m 200 #[.val (.int p1), .val (.int p2), .val (.int p3), .val (.int (p2 &&& (3 : Int32))), .val (.int p3.toInt8.toInt32), .val (.ref o1), .val (.int (f0_9 p1 p2 p3)), .val (.int (f2 p1))] [(.int (f0_16 p1 p2 p3))])) _
                                refine XS.ifNo X26.here hx rfl (hb hby at_200) rfl ((if0 _ _).trans (feq h27).1) ?_
                                show Steps p.tables e below (T26.setTop (mkF m 203 #[.val (.int p1), .val (.int p2), .val (.int p3), .val (.int (p2 &&& (3 : Int32))), .val (.int p3.toInt8.toInt32), .val (.ref o1), .val (.int (f0_9 p1 p2 p3)), .val (.int (f2 p1))] [])) _
                                refine XS.aload X26.here hx rfl (hb hby at_203) rfl rfl ?_
                                show Steps p.tables e below (T26.setTop (mkF m 205 #[.val (.int p1), .val (.int p2), .val (.int p3), .val (.int (p2 &&& (3 : Int32))), .val (.int p3.toInt8.toInt32), .val (.ref o1), .val (.int (f0_9 p1 p2 p3)), .val (.int (f2 p1))] [(.ref o1)])) _
                                refine XS.bipush X26.here hx rfl (hb hby at_205) ?_
                                show Steps p.tables e below (T26.setTop (mkF m 207 #[.val (.int p1), .val (.int p2), .val (.int p3), .val (.int (p2 &&& (3 : Int32))), .val (.int p3.toInt8.toInt32), .val (.ref o1), .val (.int (f0_9 p1 p2 p3)), .val (.int (f2 p1))] [(.int (7 : Int32)), (.ref o1)])) _
                                refine XS.iloadN X26.here hx rfl (hb hby at_207) rfl ?_
                                show Steps p.tables e below (T26.setTop (mkF m 208 #[.val (.int p1), .val (.int p2), .val (.int p3), .val (.int (p2 &&& (3 : Int32))), .val (.int p3.toInt8.toInt32), .val (.ref o1), .val (.int (f0_9 p1 p2 p3)), .val (.int (f2 p1))] [(.int (p2 &&& (3 : Int32))), (.int (7 : Int32)), (.ref o1)])) _
                                refine XS.iload X26.here hx rfl (hb hby at_208) rfl ?_
                                show Steps p.tables e below (T26.setTop (mkF m 210 #[.val (.int p1), .val (.int p2), .val (.int p3), .val (.int (p2 &&& (3 : Int32))), .val (.int p3.toInt8.toInt32), .val (.ref o1), .val (.int (f0_9 p1 p2 p3)), .val (.int (f2 p1))] [(.int (f2 p1)), (.int (p2 &&& (3 : Int32))), (.int (7 : Int32)), (.ref o1)])) _
                                refine XS.iloadN X26.here hx rfl (hb hby at_210) rfl ?_
                                show Steps p.tables e below (T26.setTop (mkF m 211 #[.val (.int p1), .val (.int p2), .val (.int p3), .val (.int (p2 &&& (3 : Int32))), .val (.int p3.toInt8.toInt32), .val (.ref o1), .val (.int (f0_9 p1 p2 p3)), .val (.int (f2 p1))] [(.int p1), (.int (f2 p1)), (.int (p2 &&& (3 : Int32))), (.int (7 : Int32)), (.ref o1)])) _
                                refine XS.iload X26.here hx rfl (hb hby at_211) rfl ?_
                                show Steps p.tables e below (T26.setTop (mkF m 213 #[.val (.int p1), .val (.int p2), .val (.int p3), .val (.int (p2 &&& (3 : Int32))), .val (.int p3.toInt8.toInt32), .val (.ref o1), .val (.int (f0_9 p1 p2 p3)), .val (.int (f2 p1))] [(.int p3.toInt8.toInt32), (.int p1), (.int (f2 p1)), (.int (p2 &&& (3 : Int32))), (.int (7 : Int32)), (.ref o1)])) _
                                refine st28 _ ?_
                                show Steps p.tables e below (T28.setTop (mkF m 216 #[.val (.int p1), .val (.int p2), .val (.int p3), .val (.int (p2 &&& (3 : Int32))), .val (.int p3.toInt8.toInt32), .val (.ref o1), .val (.int (f0_9 p1 p2 p3)), .val (.int (f2 p1))] [(.int (f0_17 p1 p2 p3))])) _
                                refine st33 _ ?_
                                exact k
                            refine ⟨T34, _, X34, e34, N34, fun t k => ?_⟩
                            rw [show (f0_20 p1 p2 p3) = (if (f0_16 p1 p2 p3) = (0 : Int32) then (0 : Int32) else (f0_19 p1 p2 p3)) from if_neg h25] at k
                            show Steps p.tables e below (T24.setTop (mkF m 184 #[.val (.int p1), .val (.int p2), .val (.int p3), .val (.int (p2 &&& (3 : Int32))), .val (.int p3.toInt8.toInt32), .val (.ref o1), .val (.int (f0_9 p1 p2 p3)), .val (.int (f2 p1))] [(.int (f0_15 p1 p2 p3))])) _
                            refine XS.ifNo X24.here hx rfl (hb hby at_184) rfl ((if0 _ _).trans (feq h25).1) ?_
                            show Steps p.tables e below (T24.setTop (mkF m 187 #[.val (.int p1), .val (.int p2), .val (.int p3), .val (.int (p2 &&& (3 : Int32))), .val (.int p3.toInt8.toInt32), .val (.ref o1), .val (.int (f0_9 p1 p2 p3)), .val (.int (f2 p1))] [])) _
                            refine XS.aload X24.here hx rfl (hb hby at_187) rfl rfl ?_
                            show Steps p.tables e below (T24.setTop (mkF m 189 #[.val (.int p1), .val (.int p2), .val (.int p3), .val (.int (p2 &&& (3 : Int32))), .val (.int p3.toInt8.toInt32), .val (.ref o1), .val (.int (f0_9 p1 p2 p3)), .val (.int (f2 p1))] [(.ref o1)])) _
                            refine XS.bipush X24.here hx rfl (hb hby at_189) ?_
                            show Steps p.tables e below (T24.setTop (mkF m 191 #[.val (.int p1), .val (.int p2), .val (.int p3), .val (.int (p2 &&& (3 : Int32))), .val (.int p3.toInt8.toInt32), .val (.ref o1), .val (.int (f0_9 p1 p2 p3)), .val (.int (f2 p1))] [(.int (6 : Int32)), (.ref o1)])) _
                            refine XS.iloadN X24.here hx rfl (hb hby at_191) rfl ?_
                            show Steps p.tables e below (T24.setTop (mkF m 192 #[.val (.int p1), .val (.int p2), .val (.int p3), .val (.int (p2 &&& (3 : Int32))), .val (.int p3.toInt8.toInt32), .val (.ref o1), .val (.int (f0_9 p1 p2 p3)), .val (.int (f2 p1))] [(.int (p2 &&& (3 : Int32))), (.int (6 : Int32)), (.ref o1)])) _
                            refine XS.iload X24.here hx rfl (hb hby at_192) rfl ?_
                            show Steps p.tables e below (T24.setTop (mkF m 194 #[.val (.int p1), .val (.int p2), .val (.int p3), .val (.int (p2 &&& (3 : Int32))), .val (.int p3.toInt8.toInt32), .val (.ref o1), .val (.int (f0_9 p1 p2 p3)), .val (.int (f2 p1))] [(.int (f2 p1)), (.int (p2 &&& (3 : Int32))), (.int (6 : Int32)), (.ref o1)])) _
                            refine XS.iloadN X24.here hx rfl (hb hby at_194) rfl ?_
                            show Steps p.tables e below (T24.setTop (mkF m 195 #[.val (.int p1), .val (.int p2), .val (.int p3), .val (.int (p2 &&& (3 : Int32))), .val (.int p3.toInt8.toInt32), .val (.ref o1), .val (.int (f0_9 p1 p2 p3)), .val (.int (f2 p1))] [(.int p1), (.int (f2 p1)), (.int (p2 &&& (3 : Int32))), (.int (6 : Int32)), (.ref o1)])) _
                            refine XS.iload X24.here hx rfl (hb hby at_195) rfl ?_
                            show Steps p.tables e below (T24.setTop (mkF m 197 #[.val (.int p1), .val (.int p2), .val (.int p3), .val (.int (p2 &&& (3 : Int32))), .val (.int p3.toInt8.toInt32), .val (.ref o1), .val (.int (f0_9 p1 p2 p3)), .val (.int (f2 p1))] [(.int p3.toInt8.toInt32), (.int p1), (.int (f2 p1)), (.int (p2 &&& (3 : Int32))), (.int (6 : Int32)), (.ref o1)])) _
                            refine st26 _ ?_
                            show Steps p.tables e below (T26.setTop (mkF m 200 #[.val (.int p1), .val (.int p2), .val (.int p3), .val (.int (p2 &&& (3 : Int32))), .val (.int p3.toInt8.toInt32), .val (.ref o1), .val (.int (f0_9 p1 p2 p3)), .val (.int (f2 p1))] [(.int (f0_16 p1 p2 p3))])) _
                            refine st34 _ ?_
                            exact k
                        refine ⟨T35, _, X35, e35, N35, fun t k => ?_⟩
                        rw [show (if (f0_14 p1 p2 p3) = (0 : Int32) then (0 : Int32) else (f0_20 p1 p2 p3)) = (f0_20 p1 p2 p3) from if_neg h23] at k
                        show Steps p.tables e below (T22.setTop (mkF m 169 #[.val (.int p1), .val (.int p2), .val (.int p3), .val (.int (p2 &&& (3 : Int32))), .val (.int p3.toInt8.toInt32), .val (.ref o1), .val (.int (f0_9 p1 p2 p3)), .val (.int (f2 p1))] [(.int (f0_14 p1 p2 p3))])) _
                        refine XS.ifNo X22.here hx rfl (hb hby at_169) rfl ((if0 _ _).trans (feq h23).1) ?_
                        show Steps p.tables e below (T22.setTop (mkF m 172 #[.val (.int p1), .val (.int p2), .val (.int p3), .val (.int (p2 &&& (3 : Int32))), .val (.int p3.toInt8.toInt32), .val (.ref o1), .val (.int (f0_9 p1 p2 p3)), .val (.int (f2 p1))] [])) _
                        refine XS.aload X22.here hx rfl (hb hby at_172) rfl rfl ?_
                        show Steps p.tables e below (T22.setTop (mkF m 174 #[.val (.int p1), .val (.int p2), .val (.int p3), .val (.int (p2 &&& (3 : Int32))), .val (.int p3.toInt8.toInt32), .val (.ref o1), .val (.int (f0_9 p1 p2 p3)), .val (.int (f2 p1))] [(.ref o1)])) _
                        refine XS.iconst X22.here hx rfl (hb hby at_174) ?_
                        show Steps p.tables e below (T22.setTop (mkF m 175 #[.val (.int p1), .val (.int p2), .val (.int p3), .val (.int (p2 &&& (3 : Int32))), .val (.int p3.toInt8.toInt32), .val (.ref o1), .val (.int (f0_9 p1 p2 p3)), .val (.int (f2 p1))] [(.int (5 : Int32)), (.ref o1)])) _
                        refine XS.iloadN X22.here hx rfl (hb hby at_175) rfl ?_
                        show Steps p.tables e below (T22.setTop (mkF m 176 #[.val (.int p1), .val (.int p2), .val (.int p3), .val (.int (p2 &&& (3 : Int32))), .val (.int p3.toInt8.toInt32), .val (.ref o1), .val (.int (f0_9 p1 p2 p3)), .val (.int (f2 p1))] [(.int (p2 &&& (3 : Int32))), (.int (5 : Int32)), (.ref o1)])) _
                        refine XS.iload X22.here hx rfl (hb hby at_176) rfl ?_
                        show Steps p.tables e below (T22.setTop (mkF m 178 #[.val (.int p1), .val (.int p2), .val (.int p3), .val (.int (p2 &&& (3 : Int32))), .val (.int p3.toInt8.toInt32), .val (.ref o1), .val (.int (f0_9 p1 p2 p3)), .val (.int (f2 p1))] [(.int (f2 p1)), (.int (p2 &&& (3 : Int32))), (.int (5 : Int32)), (.ref o1)])) _
                        refine XS.iloadN X22.here hx rfl (hb hby at_178) rfl ?_
                        show Steps p.tables e below (T22.setTop (mkF m 179 #[.val (.int p1), .val (.int p2), .val (.int p3), .val (.int (p2 &&& (3 : Int32))), .val (.int p3.toInt8.toInt32), .val (.ref o1), .val (.int (f0_9 p1 p2 p3)), .val (.int (f2 p1))] [(.int p1), (.int (f2 p1)), (.int (p2 &&& (3 : Int32))), (.int (5 : Int32)), (.ref o1)])) _
                        refine XS.iload X22.here hx rfl (hb hby at_179) rfl ?_
                        show Steps p.tables e below (T22.setTop (mkF m 181 #[.val (.int p1), .val (.int p2), .val (.int p3), .val (.int (p2 &&& (3 : Int32))), .val (.int p3.toInt8.toInt32), .val (.ref o1), .val (.int (f0_9 p1 p2 p3)), .val (.int (f2 p1))] [(.int p3.toInt8.toInt32), (.int p1), (.int (f2 p1)), (.int (p2 &&& (3 : Int32))), (.int (5 : Int32)), (.ref o1)])) _
                        refine st24 _ ?_
                        show Steps p.tables e below (T24.setTop (mkF m 184 #[.val (.int p1), .val (.int p2), .val (.int p3), .val (.int (p2 &&& (3 : Int32))), .val (.int p3.toInt8.toInt32), .val (.ref o1), .val (.int (f0_9 p1 p2 p3)), .val (.int (f2 p1))] [(.int (f0_15 p1 p2 p3))])) _
                        refine st35 _ ?_
                        exact k
                    refine ⟨T36, _, X36, e36, N36, fun t k => ?_⟩
                    rw [show (f0_21 p1 p2 p3) = (if (f0_14 p1 p2 p3) = (0 : Int32) then (0 : Int32) else (f0_20 p1 p2 p3)) from if_neg h21] at k
                    show Steps p.tables e below (T20.setTop (mkF m 154 #[.val (.int p1), .val (.int p2), .val (.int p3), .val (.int (p2 &&& (3 : Int32))), .val (.int p3.toInt8.toInt32), .val (.ref o1), .val (.int (f0_9 p1 p2 p3)), .val (.int (f2 p1))] [(.int (f0_13 p1 p2 p3))])) _
                    refine XS.ifNo X20.here hx rfl (hb hby at_154) rfl ((if0 _ _).trans (feq h21).1) ?_
                    show Steps p.tables e below (T20.setTop (mkF m 157 #[.val (.int p1), .val (.int p2), .val (.int p3), .val (.int (p2 &&& (3 : Int32))), .val (.int p3.toInt8.toInt32), .val (.ref o1), .val (.int (f0_9 p1 p2 p3)), .val (.int (f2 p1))] [])) _
                    refine XS.aload X20.here hx rfl (hb hby at_157) rfl rfl ?_
                    show Steps p.tables e below (T20.setTop (mkF m 159 #[.val (.int p1), .val (.int p2), .val (.int p3), .val (.int (p2 &&& (3 : Int32))), .val (.int p3.toInt8.toInt32), .val (.ref o1), .val (.int (f0_9 p1 p2 p3)), .val (.int (f2 p1))] [(.ref o1)])) _
                    refine XS.iconst X20.here hx rfl (hb hby at_159) ?_
                    show Steps p.tables e below (T20.setTop (mkF m 160 #[.val (.int p1), .val (.int p2), .val (.int p3), .val (.int (p2 &&& (3 : Int32))), .val (.int p3.toInt8.toInt32), .val (.ref o1), .val (.int (f0_9 p1 p2 p3)), .val (.int (f2 p1))] [(.int (4 : Int32)), (.ref o1)])) _
                    refine XS.iloadN X20.here hx rfl (hb hby at_160) rfl ?_
                    show Steps p.tables e below (T20.setTop (mkF m 161 #[.val (.int p1), .val (.int p2), .val (.int p3), .val (.int (p2 &&& (3 : Int32))), .val (.int p3.toInt8.toInt32), .val (.ref o1), .val (.int (f0_9 p1 p2 p3)), .val (.int (f2 p1))] [(.int (p2 &&& (3 : Int32))), (.int (4 : Int32)), (.ref o1)])) _
                    refine XS.iload X20.here hx rfl (hb hby at_161) rfl ?_
                    show Steps p.tables e below (T20.setTop (mkF m 163 #[.val (.int p1), .val (.int p2), .val (.int p3), .val (.int (p2 &&& (3 : Int32))), .val (.int p3.toInt8.toInt32), .val (.ref o1), .val (.int (f0_9 p1 p2 p3)), .val (.int (f2 p1))] [(.int (f2 p1)), (.int (p2 &&& (3 : Int32))), (.int (4 : Int32)), (.ref o1)])) _
                    refine XS.iloadN X20.here hx rfl (hb hby at_163) rfl ?_
                    show Steps p.tables e below (T20.setTop (mkF m 164 #[.val (.int p1), .val (.int p2), .val (.int p3), .val (.int (p2 &&& (3 : Int32))), .val (.int p3.toInt8.toInt32), .val (.ref o1), .val (.int (f0_9 p1 p2 p3)), .val (.int (f2 p1))] [(.int p1), (.int (f2 p1)), (.int (p2 &&& (3 : Int32))), (.int (4 : Int32)), (.ref o1)])) _
                    refine XS.iload X20.here hx rfl (hb hby at_164) rfl ?_
                    show Steps p.tables e below (T20.setTop (mkF m 166 #[.val (.int p1), .val (.int p2), .val (.int p3), .val (.int (p2 &&& (3 : Int32))), .val (.int p3.toInt8.toInt32), .val (.ref o1), .val (.int (f0_9 p1 p2 p3)), .val (.int (f2 p1))] [(.int p3.toInt8.toInt32), (.int p1), (.int (f2 p1)), (.int (p2 &&& (3 : Int32))), (.int (4 : Int32)), (.ref o1)])) _
                    refine st22 _ ?_
                    show Steps p.tables e below (T22.setTop (mkF m 169 #[.val (.int p1), .val (.int p2), .val (.int p3), .val (.int (p2 &&& (3 : Int32))), .val (.int p3.toInt8.toInt32), .val (.ref o1), .val (.int (f0_9 p1 p2 p3)), .val (.int (f2 p1))] [(.int (f0_14 p1 p2 p3))])) _
                    refine st36 _ ?_
                    exact k
                refine ⟨T37, _, X37, e37, N37, fun t k => ?_⟩
                rw [show (if (f0_12 p1 p2 p3) = (0 : Int32) then (0 : Int32) else (f0_21 p1 p2 p3)) = (f0_21 p1 p2 p3) from if_neg h19] at k
                show Steps p.tables e below (T18.setTop (mkF m 139 #[.val (.int p1), .val (.int p2), .val (.int p3), .val (.int (p2 &&& (3 : Int32))), .val (.int p3.toInt8.toInt32), .val (.ref o1), .val (.int (f0_9 p1 p2 p3)), .val (.int (f2 p1))] [(.int (f0_12 p1 p2 p3))])) _
                refine XS.ifNo X18.here hx rfl (hb hby at_139) rfl ((if0 _ _).trans (feq h19).1) ?_
                show Steps p.tables e below (T18.setTop (mkF m 142 #[.val (.int p1), .val (.int p2), .val (.int p3), .val (.int (p2 &&& (3 : Int32))), .val (.int p3.toInt8.toInt32), .val (.ref o1), .val (.int (f0_9 p1 p2 p3)), .val (.int (f2 p1))] [])) _
                refine XS.aload X18.here hx rfl (hb hby at_142) rfl rfl ?_
                show Steps p.tables e below (T18.setTop (mkF m 144 #[.val (.int p1), .val (.int p2), .val (.int p3), .val (.int (p2 &&& (3 : Int32))), .val (.int p3.toInt8.toInt32), .val (.ref o1), .val (.int (f0_9 p1 p2 p3)), .val (.int (f2 p1))] [(.ref o1)])) _
                refine XS.iconst X18.here hx rfl (hb hby at_144) ?_
                show Steps p.tables e below (T18.setTop (mkF m 145 #[.val (.int p1), .val (.int p2), .val (.int p3), .val (.int (p2 &&& (3 : Int32))), .val (.int p3.toInt8.toInt32), .val (.ref o1), .val (.int (f0_9 p1 p2 p3)), .val (.int (f2 p1))] [(.int (3 : Int32)), (.ref o1)])) _
                refine XS.iloadN X18.here hx rfl (hb hby at_145) rfl ?_
                show Steps p.tables e below (T18.setTop (mkF m 146 #[.val (.int p1), .val (.int p2), .val (.int p3), .val (.int (p2 &&& (3 : Int32))), .val (.int p3.toInt8.toInt32), .val (.ref o1), .val (.int (f0_9 p1 p2 p3)), .val (.int (f2 p1))] [(.int (p2 &&& (3 : Int32))), (.int (3 : Int32)), (.ref o1)])) _
                refine XS.iload X18.here hx rfl (hb hby at_146) rfl ?_
                show Steps p.tables e below (T18.setTop (mkF m 148 #[.val (.int p1), .val (.int p2), .val (.int p3), .val (.int (p2 &&& (3 : Int32))), .val (.int p3.toInt8.toInt32), .val (.ref o1), .val (.int (f0_9 p1 p2 p3)), .val (.int (f2 p1))] [(.int (f2 p1)), (.int (p2 &&& (3 : Int32))), (.int (3 : Int32)), (.ref o1)])) _
                refine XS.iloadN X18.here hx rfl (hb hby at_148) rfl ?_
                show Steps p.tables e below (T18.setTop (mkF m 149 #[.val (.int p1), .val (.int p2), .val (.int p3), .val (.int (p2 &&& (3 : Int32))), .val (.int p3.toInt8.toInt32), .val (.ref o1), .val (.int (f0_9 p1 p2 p3)), .val (.int (f2 p1))] [(.int p1), (.int (f2 p1)), (.int (p2 &&& (3 : Int32))), (.int (3 : Int32)), (.ref o1)])) _
                refine XS.iload X18.here hx rfl (hb hby at_149) rfl ?_
                show Steps p.tables e below (T18.setTop (mkF m 151 #[.val (.int p1), .val (.int p2), .val (.int p3), .val (.int (p2 &&& (3 : Int32))), .val (.int p3.toInt8.toInt32), .val (.ref o1), .val (.int (f0_9 p1 p2 p3)), .val (.int (f2 p1))] [(.int p3.toInt8.toInt32), (.int p1), (.int (f2 p1)), (.int (p2 &&& (3 : Int32))), (.int (3 : Int32)), (.ref o1)])) _
                refine st20 _ ?_
                show Steps p.tables e below (T20.setTop (mkF m 154 #[.val (.int p1), .val (.int p2), .val (.int p3), .val (.int (p2 &&& (3 : Int32))), .val (.int p3.toInt8.toInt32), .val (.ref o1), .val (.int (f0_9 p1 p2 p3)), .val (.int (f2 p1))] [(.int (f0_13 p1 p2 p3))])) _
                refine st37 _ ?_
                exact k
            refine ⟨T38, _, X38, e38, N38, fun t k => ?_⟩
            rw [show (f0_22 p1 p2 p3) = (if (f0_12 p1 p2 p3) = (0 : Int32) then (0 : Int32) else (f0_21 p1 p2 p3)) from if_neg h17] at k
            show Steps p.tables e below (T16.setTop (mkF m 124 #[.val (.int p1), .val (.int p2), .val (.int p3), .val (.int (p2 &&& (3 : Int32))), .val (.int p3.toInt8.toInt32), .val (.ref o1), .val (.int (f0_9 p1 p2 p3)), .val (.int (f2 p1))] [(.int (f0_11 p1 p2 p3))])) _
            refine XS.ifNo X16.here hx rfl (hb hby at_124) rfl ((if0 _ _).trans (feq h17).1) ?_
            show Steps p.tables e below (T16.setTop (mkF m 127 #[.val (.int p1), .val (.int p2), .val (.int p3), .val (.int (p2 &&& (3 : Int32))), .val (.int p3.toInt8.toInt32), .val (.ref o1), .val (.int (f0_9 p1 p2 p3)), .val (.int (f2 p1))] [])) _
            refine XS.aload X16.here hx rfl (hb hby at_127) rfl rfl ?_
            show Steps p.tables e below (T16.setTop (mkF m 129 #[.val (.int p1), .val (.int p2), .val (.int p3), .val (.int (p2 &&& (3 : Int32))), .val (.int p3.toInt8.toInt32), .val (.ref o1), .val (.int (f0_9 p1 p2 p3)), .val (.int (f2 p1))] [(.ref o1)])) _
            refine XS.iconst X16.here hx rfl (hb hby at_129) ?_
            show Steps p.tables e below (T16.setTop (mkF m 130 #[.val (.int p1), .val (.int p2), .val (.int p3), .val (.int (p2 &&& (3 : Int32))), .val (.int p3.toInt8.toInt32), .val (.ref o1), .val (.int (f0_9 p1 p2 p3)), .val (.int (f2 p1))] [(.int (2 : Int32)), (.ref o1)])) _
            refine XS.iloadN X16.here hx rfl (hb hby at_130) rfl ?_
            show Steps p.tables e below (T16.setTop (mkF m 131 #[.val (.int p1), .val (.int p2), .val (.int p3), .val (.int (p2 &&& (3 : Int32))), .val (.int p3.toInt8.toInt32), .val (.ref o1), .val (.int (f0_9 p1 p2 p3)), .val (.int (f2 p1))] [(.int (p2 &&& (3 : Int32))), (.int (2 : Int32)), (.ref o1)])) _
            refine XS.iload X16.here hx rfl (hb hby at_131) rfl ?_
            show Steps p.tables e below (T16.setTop (mkF m 133 #[.val (.int p1), .val (.int p2), .val (.int p3), .val (.int (p2 &&& (3 : Int32))), .val (.int p3.toInt8.toInt32), .val (.ref o1), .val (.int (f0_9 p1 p2 p3)), .val (.int (f2 p1))] [(.int (f2 p1)), (.int (p2 &&& (3 : Int32))), (.int (2 : Int32)), (.ref o1)])) _
            refine XS.iloadN X16.here hx rfl (hb hby at_133) rfl ?_
            show Steps p.tables e below (T16.setTop (mkF m 134 #[.val (.int p1), .val (.int p2), .val (.int p3), .val (.int (p2 &&& (3 : Int32))), .val (.int p3.toInt8.toInt32), .val (.ref o1), .val (.int (f0_9 p1 p2 p3)), .val (.int (f2 p1))] [(.int p1), (.int (f2 p1)), (.int (p2 &&& (3 : Int32))), (.int (2 : Int32)), (.ref o1)])) _
            refine XS.iload X16.here hx rfl (hb hby at_134) rfl ?_
            show Steps p.tables e below (T16.setTop (mkF m 136 #[.val (.int p1), .val (.int p2), .val (.int p3), .val (.int (p2 &&& (3 : Int32))), .val (.int p3.toInt8.toInt32), .val (.ref o1), .val (.int (f0_9 p1 p2 p3)), .val (.int (f2 p1))] [(.int p3.toInt8.toInt32), (.int p1), (.int (f2 p1)), (.int (p2 &&& (3 : Int32))), (.int (2 : Int32)), (.ref o1)])) _
            refine st18 _ ?_
            show Steps p.tables e below (T18.setTop (mkF m 139 #[.val (.int p1), .val (.int p2), .val (.int p3), .val (.int (p2 &&& (3 : Int32))), .val (.int p3.toInt8.toInt32), .val (.ref o1), .val (.int (f0_9 p1 p2 p3)), .val (.int (f2 p1))] [(.int (f0_12 p1 p2 p3))])) _
            refine st38 _ ?_
            exact k
        refine ⟨T39, _, X39, e39, N39, fun t k => ?_⟩
        rw [show (if (f0_10 p1 p2 p3) = (0 : Int32) then (0 : Int32) else (f0_22 p1 p2 p3)) = (f0_22 p1 p2 p3) from if_neg h15] at k
        show Steps p.tables e below (T14.setTop (mkF m 109 #[.val (.int p1), .val (.int p2), .val (.int p3), .val (.int (p2 &&& (3 : Int32))), .val (.int p3.toInt8.toInt32), .val (.ref o1), .val (.int (f0_9 p1 p2 p3)), .val (.int (f2 p1))] [(.int (f0_10 p1 p2 p3))])) _
        refine XS.ifNo X14.here hx rfl (hb hby at_109) rfl ((if0 _ _).trans (feq h15).1) ?_
        show Steps p.tables e below (T14.setTop (mkF m 112 #[.val (.int p1), .val (.int p2), .val (.int p3), .val (.int (p2 &&& (3 : Int32))), .val (.int p3.toInt8.toInt32), .val (.ref o1), .val (.int (f0_9 p1 p2 p3)), .val (.int (f2 p1))] [])) _
        refine XS.aload X14.here hx rfl (hb hby at_112) rfl rfl ?_
        show Steps p.tables e below (T14.setTop (mkF m 114 #[.val (.int p1), .val (.int p2), .val (.int p3), .val (.int (p2 &&& (3 : Int32))), .val (.int p3.toInt8.toInt32), .val (.ref o1), .val (.int (f0_9 p1 p2 p3)), .val (.int (f2 p1))] [(.ref o1)])) _
        refine XS.iconst X14.here hx rfl (hb hby at_114) ?_
        show Steps p.tables e below (T14.setTop (mkF m 115 #[.val (.int p1), .val (.int p2), .val (.int p3), .val (.int (p2 &&& (3 : Int32))), .val (.int p3.toInt8.toInt32), .val (.ref o1), .val (.int (f0_9 p1 p2 p3)), .val (.int (f2 p1))] [(.int (1 : Int32)), (.ref o1)])) _
        refine XS.iloadN X14.here hx rfl (hb hby at_115) rfl ?_
        show Steps p.tables e below (T14.setTop (mkF m 116 #[.val (.int p1), .val (.int p2), .val (.int p3), .val (.int (p2 &&& (3 : Int32))), .val (.int p3.toInt8.toInt32), .val (.ref o1), .val (.int (f0_9 p1 p2 p3)), .val (.int (f2 p1))] [(.int (p2 &&& (3 : Int32))), (.int (1 : Int32)), (.ref o1)])) _
        refine XS.iload X14.here hx rfl (hb hby at_116) rfl ?_
        show Steps p.tables e below (T14.setTop (mkF m 118 #[.val (.int p1), .val (.int p2), .val (.int p3), .val (.int (p2 &&& (3 : Int32))), .val (.int p3.toInt8.toInt32), .val (.ref o1), .val (.int (f0_9 p1 p2 p3)), .val (.int (f2 p1))] [(.int (f2 p1)), (.int (p2 &&& (3 : Int32))), (.int (1 : Int32)), (.ref o1)])) _
        refine XS.iloadN X14.here hx rfl (hb hby at_118) rfl ?_
        show Steps p.tables e below (T14.setTop (mkF m 119 #[.val (.int p1), .val (.int p2), .val (.int p3), .val (.int (p2 &&& (3 : Int32))), .val (.int p3.toInt8.toInt32), .val (.ref o1), .val (.int (f0_9 p1 p2 p3)), .val (.int (f2 p1))] [(.int p1), (.int (f2 p1)), (.int (p2 &&& (3 : Int32))), (.int (1 : Int32)), (.ref o1)])) _
        refine XS.iload X14.here hx rfl (hb hby at_119) rfl ?_
        show Steps p.tables e below (T14.setTop (mkF m 121 #[.val (.int p1), .val (.int p2), .val (.int p3), .val (.int (p2 &&& (3 : Int32))), .val (.int p3.toInt8.toInt32), .val (.ref o1), .val (.int (f0_9 p1 p2 p3)), .val (.int (f2 p1))] [(.int p3.toInt8.toInt32), (.int p1), (.int (f2 p1)), (.int (p2 &&& (3 : Int32))), (.int (1 : Int32)), (.ref o1)])) _
        refine st16 _ ?_
        show Steps p.tables e below (T16.setTop (mkF m 124 #[.val (.int p1), .val (.int p2), .val (.int p3), .val (.int (p2 &&& (3 : Int32))), .val (.int p3.toInt8.toInt32), .val (.ref o1), .val (.int (f0_9 p1 p2 p3)), .val (.int (f2 p1))] [(.int (f0_11 p1 p2 p3))])) _
        refine st39 _ ?_
        exact k
    obtain ⟨fs, hr, hrun, hended, hW, hsame⟩ := X40.leave (v := some (.int ((if (f0_10 p1 p2 p3) = (0 : Int32) then (0 : Int32) else (f0_22 p1 p2 p3)) &&& 1))) (fun h => by rw [Bd.returns] at h; cases h)
    refine ⟨_, _, ?_, hrun, hended, _, _, rfl, ?_, ⟨_, rfl⟩, hW, hsame.mono (by decide) (by decide)⟩
    · show Steps p.tables e below (T12.setTop (mkF m 92 #[.val (.int p1), .val (.int p2), .val (.int p3), .val (.int (p2 &&& (3 : Int32))), .val (.int p3.toInt8.toInt32), .val (.ref o1), .val (.int (f0_9 p1 p2 p3)), .val (.int (f2 p1))] [(.int ((p2 &&& (3 : Int32)) + (f2 p1))), (.int (f0_9 p1 p2 p3))])) _
      refine XS.icmpYes X12.here hx rfl (pc0 := 92) (pc' := 97) rfl (hb hby at_92) rfl (teq h13).1 (by decide) (by decide) ?_
      show Steps p.tables e below (T12.setTop (mkF m 97 #[.val (.int p1), .val (.int p2), .val (.int p3), .val (.int (p2 &&& (3 : Int32))), .val (.int p3.toInt8.toInt32), .val (.ref o1), .val (.int (f0_9 p1 p2 p3)), .val (.int (f2 p1))] [])) _
      refine XS.aload X12.here hx rfl (hb hby at_97) rfl rfl ?_
      show Steps p.tables e below (T12.setTop (mkF m 99 #[.val (.int p1), .val (.int p2), .val (.int p3), .val (.int (p2 &&& (3 : Int32))), .val (.int p3.toInt8.toInt32), .val (.ref o1), .val (.int (f0_9 p1 p2 p3)), .val (.int (f2 p1))] [(.ref o1)])) _
      refine XS.iconst X12.here hx rfl (hb hby at_99) ?_
      show Steps p.tables e below (T12.setTop (mkF m 100 #[.val (.int p1), .val (.int p2), .val (.int p3), .val (.int (p2 &&& (3 : Int32))), .val (.int p3.toInt8.toInt32), .val (.ref o1), .val (.int (f0_9 p1 p2 p3)), .val (.int (f2 p1))] [(.int (0 : Int32)), (.ref o1)])) _
      refine XS.iloadN X12.here hx rfl (hb hby at_100) rfl ?_
      show Steps p.tables e below (T12.setTop (mkF m 101 #[.val (.int p1), .val (.int p2), .val (.int p3), .val (.int (p2 &&& (3 : Int32))), .val (.int p3.toInt8.toInt32), .val (.ref o1), .val (.int (f0_9 p1 p2 p3)), .val (.int (f2 p1))] [(.int (p2 &&& (3 : Int32))), (.int (0 : Int32)), (.ref o1)])) _
      refine XS.iload X12.here hx rfl (hb hby at_101) rfl ?_
      show Steps p.tables e below (T12.setTop (mkF m 103 #[.val (.int p1), .val (.int p2), .val (.int p3), .val (.int (p2 &&& (3 : Int32))), .val (.int p3.toInt8.toInt32), .val (.ref o1), .val (.int (f0_9 p1 p2 p3)), .val (.int (f2 p1))] [(.int (f2 p1)), (.int (p2 &&& (3 : Int32))), (.int (0 : Int32)), (.ref o1)])) _
      refine XS.iloadN X12.here hx rfl (hb hby at_103) rfl ?_
      show Steps p.tables e below (T12.setTop (mkF m 104 #[.val (.int p1), .val (.int p2), .val (.int p3), .val (.int (p2 &&& (3 : Int32))), .val (.int p3.toInt8.toInt32), .val (.ref o1), .val (.int (f0_9 p1 p2 p3)), .val (.int (f2 p1))] [(.int p1), (.int (f2 p1)), (.int (p2 &&& (3 : Int32))), (.int (0 : Int32)), (.ref o1)])) _
      refine XS.iload X12.here hx rfl (hb hby at_104) rfl ?_
      show Steps p.tables e below (T12.setTop (mkF m 106 #[.val (.int p1), .val (.int p2), .val (.int p3), .val (.int (p2 &&& (3 : Int32))), .val (.int p3.toInt8.toInt32), .val (.ref o1), .val (.int (f0_9 p1 p2 p3)), .val (.int (f2 p1))] [(.int p3.toInt8.toInt32), (.int p1), (.int (f2 p1)), (.int (p2 &&& (3 : Int32))), (.int (0 : Int32)), (.ref o1)])) _
      refine st14 _ ?_
      show Steps p.tables e below (T14.setTop (mkF m 109 #[.val (.int p1), .val (.int p2), .val (.int p3), .val (.int (p2 &&& (3 : Int32))), .val (.int p3.toInt8.toInt32), .val (.ref o1), .val (.int (f0_9 p1 p2 p3)), .val (.int (f2 p1))] [(.int (f0_10 p1 p2 p3))])) _
      refine st40 _ ?_
      show Steps p.tables e below (T40.setTop (mkF m 240 #[.val (.int p1), .val (.int p2), .val (.int p3), .val (.int (p2 &&& (3 : Int32))), .val (.int p3.toInt8.toInt32), .val (.ref o1), .val (.int (f0_9 p1 p2 p3)), .val (.int (f2 p1))] [(.int (if (f0_10 p1 p2 p3) = (0 : Int32) then (0 : Int32) else (f0_22 p1 p2 p3)))])) _
      exact retN X40 hx (t := .boolean) Bd.returns (by simp) (hb hby at_240) hr
    · show Q0 Z p1 p2 p3 h0 n0 _ T40.heap _
      rw [e40]
      exact ⟨congrArg (fun z => some (Value.int z)) ((show f0 p1 p2 p3 = ((if (f0_10 p1 p2 p3) = (0 : Int32) then (0 : Int32) else (f0_22 p1 p2 p3)) &&& 1) from by simp only [f0, if_pos h13]).symm.trans (own_law p1 p2 p3)), N40⟩
  · obtain ⟨fs, hr, hrun, hended, hW, hsame⟩ := X12.leave (v := some (.int (0 : Int32))) (fun h => by rw [Bd.returns] at h; cases h)
    refine ⟨_, _, ?_, hrun, hended, _, _, rfl, ?_, ⟨_, rfl⟩, hW, hsame.mono (by decide) (by decide)⟩
    · show Steps p.tables e below (T12.setTop (mkF m 92 #[.val (.int p1), .val (.int p2), .val (.int p3), .val (.int (p2 &&& (3 : Int32))), .val (.int p3.toInt8.toInt32), .val (.ref o1), .val (.int (f0_9 p1 p2 p3)), .val (.int (f2 p1))] [(.int ((p2 &&& (3 : Int32)) + (f2 p1))), (.int (f0_9 p1 p2 p3))])) _
      refine XS.icmpNo X12.here hx rfl (hb hby at_92) rfl (feq h13).1 ?_
      show Steps p.tables e below (T12.setTop (mkF m 95 #[.val (.int p1), .val (.int p2), .val (.int p3), .val (.int (p2 &&& (3 : Int32))), .val (.int p3.toInt8.toInt32), .val (.ref o1), .val (.int (f0_9 p1 p2 p3)), .val (.int (f2 p1))] [])) _
      refine XS.iconst X12.here hx rfl (hb hby at_95) ?_
      show Steps p.tables e below (T12.setTop (mkF m 96 #[.val (.int p1), .val (.int p2), .val (.int p3), .val (.int (p2 &&& (3 : Int32))), .val (.int p3.toInt8.toInt32), .val (.ref o1), .val (.int (f0_9 p1 p2 p3)), .val (.int (f2 p1))] [(.int (0 : Int32))])) _
      exact retN X12 hx (t := .boolean) Bd.returns (by simp) (hb hby at_96) hr
    · show Q0 Z p1 p2 p3 h0 n0 _ T12.heap _
      rw [e12]
      exact ⟨congrArg (fun z => some (Value.int z)) ((show f0 p1 p2 p3 = (0 : Int32) from by simp only [f0, if_neg h13]).symm.trans (own_law p1 p2 p3)), N12⟩
set_option maxRecDepth 65536 in
set_option maxHeartbeats 40000000 in
theorem comes_1 {Post : Tables → Env → Array Value → State → Outcome → State → Prop} (hpost : ∀ tb e args s v u, (limb_1_1.after args s (.returned v) u = true ∧ limb_1_2.after args s (.returned v) u = true ∧ True) → FrameEnd s (.returned v) u (Jvm.fieldLocs frame_1_writes args s ++ Jvm.arrayLocs frame_1_arrays args s ++ Jvm.staticLocs frame_1_statics s) 16 128 → Post tb e args s (.returned v) u) :
    ArmFor flags0 classFile x code maxLocals ret World_1 tables_1 room_1 Calls_1 rest_1 Pre_1 Post := by
  intro l hfl _ _ p e ha hc hk s m args below hf hA hF happ hP
  obtain ⟨hcalls, hrest, hpre⟩ := hP
  obtain ⟨-, -, -, hnamed, -, -, -, hat⟩ := (Spec.applies_iff hf).mp happ
  obtain ⟨hg, hn⟩ := and_e (Cond.before_iff.mp (show (Jvm.Cond.and given_1 narrow_1).before args s = true from hpre))
  obtain ⟨hcnt, hg0⟩ := and_e hg
  obtain ⟨hi0, hg1⟩ := and_e hg0
  obtain ⟨hi1, hg2⟩ := and_e hg1
  obtain ⟨w0, w1, w2, rfl⟩ : ∃ w0 w1 w2 : Value, args = #[w0, w1, w2] := by
    have hs : args.size = 3 := by simpa [Cond.value, given_1] using hcnt
    obtain ⟨L⟩ := args
    match L, hs with
    | [w0, w1, w2], _ => exact ⟨w0, w1, w2, rfl⟩
  have hw := fun d (hd : d ∈ tables_1) => atoms_spec (ws := Jvm.Cond.code x code maxLocals ret :: tables_1) hat d (List.mem_cons_of_mem _ hd)
  have hfit : Fit s := fun {y c} hc i hi => by
    obtain ⟨ha, rfl⟩ := Array.getElem?_eq_some_iff.mp hc
    have q := List.all_eq_true.mp ((Array.all_eq_true_iff_forall_mem.mp hF) _ (Array.getElem_mem ha)) i (List.mem_range.mpr hi)
    simpa [Array.getElem?_eq_getElem hi] using q
  obtain ⟨i0, ei0⟩ := is_v hi0
  obtain rfl : w0 = (.int i0) := Option.some.inj ei0
  obtain ⟨i1, ei1⟩ := is_v hi1
  obtain rfl : w1 = (.int i1) := Option.some.inj ei1
  obtain ⟨i2, ei2⟩ := is_v hg2
  obtain rfl : w2 = (.int i2) := Option.some.inj ei2
  obtain ⟨n, o, h1, h2, h3, _, L, rfl, ⟨rfl, N⟩, hq⟩ := rm0 l s _ hw tables_1 i0 i1 i2 s.heap s.heap.size (Nat.le_refl _) p e ha hc hk s m _ below hf ((Spec.applies_iff_loose hf).mp happ).1 ⟨rfl, State.Warmed39.refl s, rfl⟩ trivial
  refine ⟨n, _, h1, h2, h3, hpost _ _ _ _ _ _ ⟨Cond.after_iff.mpr rfl, Cond.after_iff.mpr (eq_i res_at (Term.int_eval (1)) rfl), trivial⟩ ⟨hq.1, hq.2.1, (hq.2.2.sift fun y hy => Or.inr (N y hy)).mono (by decide) (by decide)⟩⟩
theorem main_1_1 : Claimed_1_1 := comes_1 fun _ _ _ _ _ _ h hF => ⟨h.1, hF⟩
theorem main_1_2 : Claimed_1_2 := comes_1 fun _ _ _ _ _ _ h hF => ⟨h.2.1, hF⟩
end Jvm.Pilot.@@N@@
namespace Jvm.Pilot.@@N@@
open Jvm Jvm.ClassFile Sem Op Lib Jvm.Free Jvm.Stand Jvm.Pilot.@@N@@.Jvm.D
/-! MADE BY PROGRAM (witnessworld.py) out of the Statement's table words and the real class files: 9 classes; the members and pool entries that the words name. The judged class is class 1, her method 1. -/
namespace start1
open Jvm.ClassFile
def u (s : String) : CpInfo := .utf8 (stringToUtf16 s)
/-- a pool by its gaps: so many unusable entries, then the entry; so many at the end -/
def gap : Nat → List CpInfo → List CpInfo
  | 0, r => r
  | n + 1, r => .unusable :: gap n r
def poolList (es : List (Nat × CpInfo)) (last : Nat) : List CpInfo := es.foldr (fun e r => gap e.1 (e.2 :: r)) (gap last [])
def pool (es : List (Nat × CpInfo)) (last : Nat) : Array CpInfo := ⟨poolList es last⟩
def fileOf (pool : Array CpInfo) (this : Nat) (attrs : Array Attribute := #[]) (ms : Array MethodInfo := #[]) (fl : Nat := 33) (sup : Nat := 0) (ifs : Array Nat := #[]) (fds : Array FieldInfo := #[]) : ClassFile where
  minorVersion := 0
  majorVersion := 65
  constantPool := pool
  accessFlags := fl
  thisClass := this
  superClass := sup
  interfaces := ifs
  fields := fds
  methods := ms
  attributes := attrs
def plain (name : String) (sup : Option ClassId) : Class where
  name := name
  kind := .ordinary
  loader := none
  accessFlags := 33
  super := sup
  interfaces := #[]
  cf := none
  fields := #[]
  methods := #[]
  instanceTypes := #[]
  staticTypes := #[]
  resolved := #[]
  callSites := []
  init := .initialized
  statics := none
  mirror := none

def pool0 : Array CpInfo := pool [(5, u "<init>"), (0, u "()V"), (1, .class_ 10), (1, u "java/lang/Object")] 113

def k0m0 : Method := { name := "<init>", desc := "()V", sig := { parameters := [], returnType := none }, accessFlags := 1, code := none }
/-- java/lang/Object -/
def k0 : Class := { plain "java/lang/Object" none with
  accessFlags := 33
  interfaces := #[]
  cf := some (fileOf pool0 8 #[] #[{ accessFlags := 1, nameIndex := 5, descriptorIndex := 6, attributes := #[] }] 33 0 #[] #[])
  fields := #[]
  methods := #[k0m0]
  instanceTypes := #[]
  staticTypes := #[]
  resolved := Array.replicate 124 none
  statics := none }

def pool1 : Array CpInfo := pool [(2, .class_ 4), (1, u "java/lang/Object"), (0, u "<init>"), (0, u "()V"), (0, .methodref 8 9), (0, .class_ 10), (0, .nameAndType 11 12), (0, u "com/example/stratum/stratum/index/Postings"), (0, u "putVarInt"), (0, u "([BII)I"), (0, .methodref 14 15), (0, .class_ 16), (0, .nameAndType 17 18), (0, u "com/example/stratum/stratum/index/PostingsPutVarIntPinLaw"), (0, u "size"), (0, u "(I)I"), (0, .methodref 14 20), (0, .nameAndType 21 22), (0, u "ok"), (0, u "([BIIIIB)Z"), (2, u "law"), (0, u "(III)Z")] 5

def k1m0 : Method := { name := "<init>", desc := "()V", sig := { parameters := [], returnType := none }, accessFlags := 1, code := none }
def k1c1 : Code := { maxStack := 6, maxLocals := 8, code := code, exceptionTable := #[], attributes := #[] }
def k1m1 : Method := { name := "law", desc := "(III)Z", sig := { parameters := [.int, .int, .int], returnType := some .boolean }, accessFlags := 9, code := some k1c1 }
def k1c2 : Code := { maxStack := 2, maxLocals := 1, code := method_3_code, exceptionTable := #[], attributes := #[] }
def k1m2 : Method := { name := "size", desc := "(I)I", sig := { parameters := [.int], returnType := some .int }, accessFlags := 10, code := some k1c2 }
def k1c3 : Code := { maxStack := 3, maxLocals := 9, code := method_4_code, exceptionTable := #[], attributes := #[] }
def k1m3 : Method := { name := "ok", desc := "([BIIIIB)Z", sig := { parameters := [(.array .byte), .int, .int, .int, .int, .byte], returnType := some .boolean }, accessFlags := 10, code := some k1c3 }
/-- com/example/stratum/stratum/index/PostingsPutVarIntPinLaw -/
def k1 : Class := { plain "com/example/stratum/stratum/index/PostingsPutVarIntPinLaw" (some 0) with
  accessFlags := 49
  interfaces := #[]
  cf := some (fileOf pool1 14 #[] #[{ accessFlags := 1, nameIndex := 5, descriptorIndex := 6, attributes := #[] }, { accessFlags := 9, nameIndex := 25, descriptorIndex := 26, attributes := #[] }, { accessFlags := 10, nameIndex := 17, descriptorIndex := 18, attributes := #[] }, { accessFlags := 10, nameIndex := 21, descriptorIndex := 22, attributes := #[] }] 49 2 #[] #[])
  fields := #[]
  methods := #[k1m0, k1m1, k1m2, k1m3]
  instanceTypes := #[]
  staticTypes := #[]
  resolved := Array.replicate 32 none
  statics := none }

def pool2 : Array CpInfo := pool [(2, .class_ 4), (1, u "java/lang/Object"), (0, u "<init>"), (0, u "()V"), (0, .class_ 8), (0, u "com/example/stratum/stratum/index/Postings"), (0, u "MAX_VAR_INT_SIZE"), (0, u "I"), (4, u "putVarInt"), (0, u "([BII)I"), (4, .class_ 22), (0, u "com/example/stratum/stratum/index/Postings$Cursor"), (0, .class_ 24), (0, u "com/example/stratum/stratum/index/Postings$Concatenation"), (0, .class_ 26), (0, u "com/example/stratum/stratum/index/Postings$Builder")] 4

def k2m0 : Method := { name := "<init>", desc := "()V", sig := { parameters := [], returnType := none }, accessFlags := 2, code := none }
def k2c1 : Code := { maxStack := 4, maxLocals := 3, code := prog_14_method_2_code, exceptionTable := #[], attributes := #[] }
def k2m1 : Method := { name := "putVarInt", desc := "([BII)I", sig := { parameters := [(.array .byte), .int, .int], returnType := some .int }, accessFlags := 8, code := some k2c1 }
/-- com/example/stratum/stratum/index/Postings -/
def k2 : Class := { plain "com/example/stratum/stratum/index/Postings" (some 0) with
  accessFlags := 48
  interfaces := #[]
  cf := some (fileOf pool2 7 #[.nestMembers #[21, 23, 25]] #[{ accessFlags := 2, nameIndex := 5, descriptorIndex := 6, attributes := #[] }, { accessFlags := 8, nameIndex := 15, descriptorIndex := 16, attributes := #[] }] 48 2 #[] #[{ accessFlags := 26, nameIndex := 9, descriptorIndex := 10, attributes := #[] }])
  fields := #[{ name := "MAX_VAR_INT_SIZE", type := .int, accessFlags := 26, slot := 0, constantValue := 0 }]
  methods := #[k2m0, k2m1]
  instanceTypes := #[]
  staticTypes := #[.int]
  resolved := Array.replicate 31 none
  statics := none }

def pool3 : Array CpInfo := pool [(1, u "java/lang/Cloneable"), (0, .class_ 1), (0, u "java/lang/Object"), (0, .class_ 3)] 3

/-- java/lang/Cloneable -/
def k3 : Class := { plain "java/lang/Cloneable" (some 0) with
  accessFlags := 1537
  interfaces := #[]
  cf := some (fileOf pool3 2 #[] #[] 1537 4 #[] #[])
  fields := #[]
  methods := #[]
  instanceTypes := #[]
  staticTypes := #[]
  resolved := Array.replicate 8 none
  statics := none }

def pool4 : Array CpInfo := pool [(1, u "java/io/Serializable"), (0, .class_ 1), (0, u "java/lang/Object"), (0, .class_ 3)] 3

/-- java/io/Serializable -/
def k4 : Class := { plain "java/io/Serializable" (some 0) with
  accessFlags := 1537
  interfaces := #[]
  cf := some (fileOf pool4 2 #[] #[] 1537 4 #[] #[])
  fields := #[]
  methods := #[]
  instanceTypes := #[]
  staticTypes := #[]
  resolved := Array.replicate 8 none
  statics := none }

/-- the primitive byte -/
def k5 : Class := { plain "byte" none with kind := .primitive 'B', accessFlags := 0x411 }
/-- [B -/
def k6 : Class := { plain "[B" (some 0) with kind := .array 5 .byte, interfaces := #[3, 4], accessFlags := 1041 }

/-- the primitive int -/
def k7 : Class := { plain "int" none with kind := .primitive 'I', accessFlags := 0x411 }
/-- [I -/
def k8 : Class := { plain "[I" (some 0) with kind := .array 7 .int, interfaces := #[3, 4], accessFlags := 1041 }

def heap : Heap := #[]
def classes : Array Class := #[k0, k1, k2, k3, k4, k5, k6, k7, k8]
def interned : List (Array UInt16 × Addr) := []
def slotsUsed : Nat := 0
def theMethod : MethodId := ⟨1, 1⟩
def args0 : Array Value := #[.int 7, .int 3, .int 2]
def aboutOver (below : List Frame) : State where
  vm := { classes := classes, interned := interned.toArray }
  heap := heap
  slotsUsed := slotsUsed
  threads := #[{ frames := .invoking theMethod args0 :: below }]
def below0 : List Frame := [.native { method := ⟨0, 0⟩, args := #[] }]
def about1 : State := aboutOver below0
def p0 : Program := .bare "" "" ""
def e0 : Env := launch0.env 0 0 0
theorem w_frames : about1.frames = Frame.invoking theMethod args0 :: below0 := rfl
set_option maxRecDepth 65536 in
theorem w_args : argsFit about1.vm theMethod args0 = true := by decide +kernel
set_option maxRecDepth 65536 in
theorem w_heap : heapFits about1 = true := by decide +kernel
set_option maxRecDepth 65536 in
theorem w_runnable : about1.curStatus? = some .runnable := by decide +kernel
set_option maxRecDepth 65536 in
theorem w_alone : about1.alone = true := by decide +kernel
set_option maxRecDepth 65536 in
theorem w_named : about1.methodNamed? x = some theMethod := by decide +kernel
set_option maxRecDepth 65536 in
theorem w_hears : about1.hears theMethod below0 = true := by decide +kernel
set_option maxRecDepth 65536 in
theorem w_ripe : about1.ripe theMethod args0 below0 = true := by decide +kernel
theorem w_running : about1.status = .running := rfl
set_option maxRecDepth 65536 in
theorem w_room : about1.hasRoom e0.platform room_1 = true :=
  launch0.hasRoom_least _ room_1 (by decide +kernel) (by decide +kernel) (by decide +kernel) (by decide +kernel) (by decide +kernel) (by decide +kernel)
theorem allAtoms_all (ts : List Jvm.Cond) (a : Array Jvm.Value) (st : Jvm.State) : (allAtoms ts).before a st = ts.all (fun c => c.before a st) := by
  induction ts with
  | nil => rfl
  | cons c t ih =>
    show (Jvm.Cond.and c (allAtoms t)).before a st = _
    rw [Jvm.Cond.before_and, ih, List.all_cons]
def words1 : List Jvm.Cond := Jvm.Cond.code x code maxLocals ret :: tables_1
/-- a 'code' word, met by the world's own term for the bytes: nothing is compared byte by byte -/
theorem code_word {y : MethodName} {bytes : ByteArray} {mx : Nat} {rt : Option FieldType} {a : Array Value} {s : State} {m : MethodId} {meth : Method} {c : Code} (h1 : s.methodNamed? y = some m) (h2 : s.vm.method? m = some meth) (h3 : meth.code = some c) (h4 : c.code = bytes)
    (h5 : (c.maxLocals == mx && c.exceptionTable.isEmpty && decide (c.maxStack ≤ mostOperands) && decide (meth.sig.returnType = rt) && !meth.locks && decide (parseMethodDescriptor y.desc = some meth.sig)) = true) : (Jvm.Cond.code y bytes mx rt).before a s = true := by
  simp only [Bool.and_eq_true, beq_iff_eq, Bool.not_eq_true', decide_eq_true_eq] at h5
  obtain ⟨⟨⟨⟨⟨g1, g2⟩, g3⟩, g4⟩, g5⟩, g6⟩ := h5
  simp [Cond.before, Cond.holds, Cond.value, h1, h2, h3, h4, g1, g2, g3, g4, g5, g6]
def isCode : Jvm.Cond → Bool
  | .code _ _ _ _ => true
  | _ => false
theorem all_split {L : List Jvm.Cond} {P : Jvm.Cond → Bool} (h1 : L.all (fun c => isCode c || P c) = true) (h2 : ∀ c ∈ L.filter isCode, P c = true) : L.all P = true := by
  refine List.all_eq_true.mpr fun c hc => ?_
  have h := List.all_eq_true.mp h1 c hc
  rcases Bool.eq_false_or_eq_true (isCode c) with hi | hi
  · exact h2 c (List.mem_filter.mpr ⟨hc, hi⟩)
  · simpa [hi] using h
set_option maxRecDepth 65536 in
theorem w_c0 : (Jvm.Cond.code x code maxLocals ret).before args0 about1 = true := code_word (m := ⟨1, 1⟩) (meth := k1m1) (c := k1c1) (by decide +kernel) rfl rfl rfl (by decide +kernel)
set_option maxRecDepth 65536 in
theorem w_c1 : (Jvm.Cond.code ({ cls := "com/example/stratum/stratum/index/Postings", name := "putVarInt", desc := "([BII)I" } : Jvm.MethodName) prog_14_method_2_code (3 : Nat) (Option.some Jvm.ClassFile.FieldType.int)).before args0 about1 = true := code_word (m := ⟨2, 1⟩) (meth := k2m1) (c := k2c1) (by decide +kernel) rfl rfl rfl (by decide +kernel)
set_option maxRecDepth 65536 in
theorem w_c2 : (Jvm.Cond.code ({ cls := "com/example/stratum/stratum/index/PostingsPutVarIntPinLaw", name := "size", desc := "(I)I" } : Jvm.MethodName) method_3_code (1 : Nat) (Option.some Jvm.ClassFile.FieldType.int)).before args0 about1 = true := code_word (m := ⟨1, 2⟩) (meth := k1m2) (c := k1c2) (by decide +kernel) rfl rfl rfl (by decide +kernel)
set_option maxRecDepth 65536 in
theorem w_c3 : (Jvm.Cond.code ({ cls := "com/example/stratum/stratum/index/PostingsPutVarIntPinLaw", name := "ok", desc := "([BIIIIB)Z" } : Jvm.MethodName) method_4_code (9 : Nat) (Option.some Jvm.ClassFile.FieldType.boolean)).before args0 about1 = true := code_word (m := ⟨1, 3⟩) (meth := k1m3) (c := k1c3) (by decide +kernel) rfl rfl rfl (by decide +kernel)
def codes1 : List Jvm.Cond := [Jvm.Cond.code x code maxLocals ret, Jvm.Cond.code ({ cls := "com/example/stratum/stratum/index/Postings", name := "putVarInt", desc := "([BII)I" } : Jvm.MethodName) prog_14_method_2_code (3 : Nat) (Option.some Jvm.ClassFile.FieldType.int), Jvm.Cond.code ({ cls := "com/example/stratum/stratum/index/PostingsPutVarIntPinLaw", name := "size", desc := "(I)I" } : Jvm.MethodName) method_3_code (1 : Nat) (Option.some Jvm.ClassFile.FieldType.int), Jvm.Cond.code ({ cls := "com/example/stratum/stratum/index/PostingsPutVarIntPinLaw", name := "ok", desc := "([BIIIIB)Z" } : Jvm.MethodName) method_4_code (9 : Nat) (Option.some Jvm.ClassFile.FieldType.boolean)]
set_option maxRecDepth 65536 in
theorem codes_eq : words1.filter isCode = codes1 := rfl
theorem w_codes : ∀ c ∈ words1.filter isCode, c.before args0 about1 = true := by
  rw [codes_eq]
  intro c hc
  simp only [codes1, List.mem_cons, List.not_mem_nil, or_false] at hc
  rcases hc with rfl | rfl | rfl | rfl
  · exact w_c0
  · exact w_c1
  · exact w_c2
  · exact w_c3
set_option maxRecDepth 65536 in
theorem w_t1 : words1.all (fun c => isCode c || c.before args0 about1) = true := by decide +kernel
theorem w_tables : (allAtoms (Jvm.Cond.code x code maxLocals ret :: tables_1)).before args0 about1 = true := by
  rw [allAtoms_all]
  show words1.all (fun c => c.before args0 about1) = true
  refine all_split ?_ w_codes
  rw [w_t1]
set_option maxRecDepth 65536 in
theorem w_case : (Jvm.Cond.and given_1 narrow_1).before args0 about1 = true := by decide +kernel
theorem w_applies : (headSpec (Jvm.Cond.code x code maxLocals ret :: tables_1) room_1).applies x e0.platform about1 = true :=
  (Spec.applies_iff w_frames).mpr ⟨w_running, w_runnable, w_alone, w_named, w_hears, w_ripe, w_room, w_tables⟩
theorem atStart : AtStart classFile x code maxLocals ret World_1 tables_1 room_1 Calls_1 rest_1 Pre_1 launch0 p0 e0 about1 theMethod args0 below0 :=
  ⟨lists_1, trivial, launch0.admits_env _ _ _, launch0.least_env, fairChoices_fair.cas, fairChoices_fair.clock, w_frames, w_args, w_heap, w_applies, trivial, trivial, w_case⟩
end start1
theorem witness_1 : WitnessClaimed_1 := ⟨start1.p0, start1.e0, start1.about1, start1.theMethod, start1.args0, start1.below0, start1.atStart⟩
end Jvm.Pilot.@@N@@
