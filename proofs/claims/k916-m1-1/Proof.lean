import JvmDerived
import JvmDerived.Pilot.@@N@@Statement
import JvmDerived.Pilot.@@N@@Code
set_option linter.unusedVariables false
set_option linter.unusedSimpArgs false
namespace Jvm.RoadKit
open Sem ClassFile Op Lib Jvm.Stand Jvm.Free Jvm.LawKit
section New
variable {p : Program} {l : Launch} {e : Env} {R : Room} {s : State} {m : MethodId} {args : Array Value} {below : List Frame} {meth : Method} {c : Code} {T : State} {locs : List Loc} {cells slots : Nat}
theorem retI (X : Stand p l e R s m args below meth c T locs cells slots) (hx : p.tables.exec = Jvm.exec) {pc : Nat} {Ls : Array Slot} {z : Int32} {rest : List Value} (hret : meth.sig.returnType = some .int) (hd : decode c.code pc = .ok (.ireturn, 1)) {fs : List Frame}
    (hl : ∀ (f : JFrame) (acts : List Action), f.method = m → f.locked = none → f.entered = [] → (doReturn e (T.setTop f) acts (some (.int z))).1 = T.setFrames fs) : Steps p.tables e below (T.setTop (mkF m pc Ls (.int z :: rest))) (T.setFrames fs) := by
  have hm' : T.vm.method? m = some meth := X.method'
  have hn : narrow .int (.int z) = .int z := rfl
  show Steps p.tables e below (T.setTop { method := m, pc := pc, locals := Ls, stack := _ :: rest, locked := none }) _
  jvm_step X.here [X.here.top, hx, hd, hm', hret, hn]
  first | (intro acts; rw [hl _ acts rfl rfl rfl]) | rw [hl _ _ rfl rfl rfl]
  exact Steps.refl _
end New
end Jvm.RoadKit
namespace Jvm.Pilot.@@N@@
open Jvm Jvm.ClassFile Sem Op Lib Jvm.Free Jvm.Stand Jvm.LawKit Jvm.RoadKit Bundle Jvm.Pilot.@@N@@.Jvm.D
def own_in4 (j : Int32) : Prop := j = 0 ∨ j = 1 ∨ j = 2 ∨ j = 3
instance (j : Int32) : Decidable (own_in4 j) := inferInstanceAs (Decidable (_ ∨ _))
def own_get (c0 c1 c2 c3 j : Int32) : Int32 := if j = 0 then c0 else if j = 1 then c1 else if j = 2 then c2 else c3
def own_i (a : Fin 4) : Int32 := match a with
  | 0 => 0
  | 1 => 1
  | 2 => 2
  | 3 => 3
theorem own_i_of {j : Int32} (h : own_in4 j) : ∃ a, j = own_i a := by
  rcases h with rfl | rfl | rfl | rfl
  · exact ⟨0, rfl⟩
  · exact ⟨1, rfl⟩
  · exact ⟨2, rfl⟩
  · exact ⟨3, rfl⟩
theorem own_all (F : Int32 → Int32 → Int32 → Int32 → Int32 → Prop) (h : ∀ e a b c d : Fin 4, F (own_i e) (own_i a) (own_i b) (own_i c) (own_i d)) {p r0 r1 r2 r3 : Int32} (hp : own_in4 p) (h0 : own_in4 r0) (h1 : own_in4 r1) (h2 : own_in4 r2) (h3 : own_in4 r3) : F p r0 r1 r2 r3 := by
  obtain ⟨e, rfl⟩ := own_i_of hp
  obtain ⟨a, rfl⟩ := own_i_of h0
  obtain ⟨b, rfl⟩ := own_i_of h1
  obtain ⟨c, rfl⟩ := own_i_of h2
  obtain ⟨d, rfl⟩ := own_i_of h3
  exact h e a b c d
theorem own_gin {c0 c1 c2 c3 j : Int32} (h0 : own_in4 c0) (h1 : own_in4 c1) (h2 : own_in4 c2) (h3 : own_in4 c3) : own_in4 (own_get c0 c1 c2 c3 j) := by
  unfold own_get; repeat' split
  all_goals assumption
theorem own_iin {P : Prop} [Decidable P] {a b : Int32} (ha : own_in4 a) (hb : own_in4 b) : own_in4 (if P then a else b) := by
  split
  · exact ha
  · exact hb
theorem own_b4 {j : Int32} (h : own_in4 j) : ¬ j < 0 ∧ j < 4 := by rcases h with rfl | rfl | rfl | rfl <;> decide
theorem own_n4 {j : Int32} (h : own_in4 j) {l : List Value} (hl : l.length = 4 := by rfl) : j.toNatClampNeg < l.length := by
  rw [hl]
  rcases h with rfl | rfl | rfl | rfl <;> decide
theorem own_rd4 {j : Int32} (h : own_in4 j) {c0 c1 c2 c3 : Int32} {d : Value} : ([.int c0, .int c1, .int c2, .int c3] : List Value).getD j.toNatClampNeg d = .int (own_get c0 c1 c2 c3 j) := by rcases h with rfl | rfl | rfl | rfl <;> rfl
theorem own_set4 {j : Int32} (h : own_in4 j) {c0 c1 c2 c3 v : Int32} : ([.int c0, .int c1, .int c2, .int c3] : List Value).set j.toNatClampNeg (.int v) = [.int (if j = 0 then v else c0), .int (if j = 1 then v else c1), .int (if j = 2 then v else c2), .int (if j = 3 then v else c3)] := by rcases h with rfl | rfl | rfl | rfl <;> rfl
theorem own_and3 (p : Int32) : own_in4 (p &&& (3 : Int32)) := by
  have h1 : (p &&& (3 : Int32)).toBitVec.toNat = p.toBitVec.toNat % 4 := by
    show (p.toBitVec &&& (3 : Int32).toBitVec).toNat = _
    rw [BitVec.toNat_and, show (3 : Int32).toBitVec.toNat = 2 ^ 2 - 1 from by decide, Nat.and_two_pow_sub_one_eq_mod]
  have h2 : (p &&& (3 : Int32)).toInt = (p.toBitVec.toNat % 4 : Nat) := by
    show (p &&& (3 : Int32)).toBitVec.toInt = _
    rw [BitVec.toInt_eq_toNat_cond, h1, if_pos (by omega)]
  have h3 : p.toBitVec.toNat % 4 < 4 := Nat.mod_lt _ (by decide)
  unfold own_in4
  simp only [← Int32.toInt_inj, h2, show (0 : Int32).toInt = 0 from by decide, show (1 : Int32).toInt = 1 from by decide, show (2 : Int32).toInt = 2 from by decide, show (3 : Int32).toInt = 3 from by decide]
  omega
def f2_0 (p2 : Int32) (r0 : Int32) (r1 : Int32) (r2 : Int32) (r3 : Int32) : Int32 := (own_get r0 r1 r2 r3 (own_get r0 r1 r2 r3 (own_get r0 r1 r2 r3 p2)))
def f2 (p2 : Int32) (r0 : Int32) (r1 : Int32) (r2 : Int32) (r3 : Int32) : Int32 := (own_get r0 r1 r2 r3 (f2_0 p2 r0 r1 r2 r3))
def f1_0 (p2 : Int32) (r0 : Int32) (r1 : Int32) (r2 : Int32) (r3 : Int32) : Int32 := (if (f2 (f2 (f2 p2 r0 r1 r2 r3) r0 r1 r2 r3) r0 r1 r2 r3) = p2 then (1 : Int32) else (0 : Int32))
def f1 (p2 : Int32) (r0 : Int32) (r1 : Int32) (r2 : Int32) (r3 : Int32) : Int32 := ((f1_0 p2 r0 r1 r2 r3) &&& 1)
def f3_0 (p1 : Int32) (r0 : Int32) (r1 : Int32) (r2 : Int32) (r3 : Int32) : Int32 := (own_get r0 r1 r2 r3 (own_get r0 r1 r2 r3 (own_get r0 r1 r2 r3 p1)))
def f3_1 (p1 : Int32) (r0 : Int32) (r1 : Int32) (r2 : Int32) (r3 : Int32) : Int32 := (if p1 = (0 : Int32) then (own_get r0 r1 r2 r3 (own_get r0 r1 r2 r3 p1)) else r0)
def f3_2 (p1 : Int32) (r0 : Int32) (r1 : Int32) (r2 : Int32) (r3 : Int32) : Int32 := (if p1 = (1 : Int32) then (own_get r0 r1 r2 r3 (own_get r0 r1 r2 r3 p1)) else r1)
def f3_3 (p1 : Int32) (r0 : Int32) (r1 : Int32) (r2 : Int32) (r3 : Int32) : Int32 := (if p1 = (2 : Int32) then (own_get r0 r1 r2 r3 (own_get r0 r1 r2 r3 p1)) else r2)
def f3_4 (p1 : Int32) (r0 : Int32) (r1 : Int32) (r2 : Int32) (r3 : Int32) : Int32 := (if p1 = (3 : Int32) then (own_get r0 r1 r2 r3 (own_get r0 r1 r2 r3 p1)) else r3)
def f3_5 (p1 : Int32) (r0 : Int32) (r1 : Int32) (r2 : Int32) (r3 : Int32) : Int32 := (own_get (f3_1 p1 r0 r1 r2 r3) (f3_2 p1 r0 r1 r2 r3) (f3_3 p1 r0 r1 r2 r3) (f3_4 p1 r0 r1 r2 r3) (own_get r0 r1 r2 r3 p1))
def f3_6 (p1 : Int32) (r0 : Int32) (r1 : Int32) (r2 : Int32) (r3 : Int32) : Int32 := (own_get (if p1 = (0 : Int32) then (f3_0 p1 r0 r1 r2 r3) else r0) (if p1 = (1 : Int32) then (f3_0 p1 r0 r1 r2 r3) else r1) (if p1 = (2 : Int32) then (f3_0 p1 r0 r1 r2 r3) else r2) (if p1 = (3 : Int32) then (f3_0 p1 r0 r1 r2 r3) else r3) (own_get r0 r1 r2 r3 p1))
def f3_7 (p1 : Int32) (r0 : Int32) (r1 : Int32) (r2 : Int32) (r3 : Int32) : Int32 := (if (own_get r0 r1 r2 r3 p1) = (0 : Int32) then (f3_0 p1 r0 r1 r2 r3) else (if p1 = (0 : Int32) then (f3_0 p1 r0 r1 r2 r3) else r0))
def f3_8 (p1 : Int32) (r0 : Int32) (r1 : Int32) (r2 : Int32) (r3 : Int32) : Int32 := (if (own_get r0 r1 r2 r3 p1) = (1 : Int32) then (f3_0 p1 r0 r1 r2 r3) else (if p1 = (1 : Int32) then (f3_0 p1 r0 r1 r2 r3) else r1))
def f3_9 (p1 : Int32) (r0 : Int32) (r1 : Int32) (r2 : Int32) (r3 : Int32) : Int32 := (if (own_get r0 r1 r2 r3 p1) = (2 : Int32) then (f3_0 p1 r0 r1 r2 r3) else (if p1 = (2 : Int32) then (f3_0 p1 r0 r1 r2 r3) else r2))
def f3_10 (p1 : Int32) (r0 : Int32) (r1 : Int32) (r2 : Int32) (r3 : Int32) : Int32 := (if (own_get r0 r1 r2 r3 p1) = (3 : Int32) then (f3_0 p1 r0 r1 r2 r3) else (if p1 = (3 : Int32) then (f3_0 p1 r0 r1 r2 r3) else r3))
def f3_11 (p1 : Int32) (r0 : Int32) (r1 : Int32) (r2 : Int32) (r3 : Int32) : Int32 := (own_get (f3_7 p1 r0 r1 r2 r3) (f3_8 p1 r0 r1 r2 r3) (f3_9 p1 r0 r1 r2 r3) (f3_10 p1 r0 r1 r2 r3) (f3_6 p1 r0 r1 r2 r3))
def f3_x0 (p1 : Int32) (r0 : Int32) (r1 : Int32) (r2 : Int32) (r3 : Int32) : Int32 := (if (own_get r0 r1 r2 r3 p1) = p1 then r0 else (if (own_get r0 r1 r2 r3 (own_get r0 r1 r2 r3 p1)) = (own_get r0 r1 r2 r3 p1) then r0 else (if (f3_0 p1 r0 r1 r2 r3) = (own_get r0 r1 r2 r3 (own_get r0 r1 r2 r3 p1)) then (f3_1 p1 r0 r1 r2 r3) else (f3_7 p1 r0 r1 r2 r3))))
def f3_x1 (p1 : Int32) (r0 : Int32) (r1 : Int32) (r2 : Int32) (r3 : Int32) : Int32 := (if (own_get r0 r1 r2 r3 p1) = p1 then r1 else (if (own_get r0 r1 r2 r3 (own_get r0 r1 r2 r3 p1)) = (own_get r0 r1 r2 r3 p1) then r1 else (if (f3_0 p1 r0 r1 r2 r3) = (own_get r0 r1 r2 r3 (own_get r0 r1 r2 r3 p1)) then (f3_2 p1 r0 r1 r2 r3) else (f3_8 p1 r0 r1 r2 r3))))
def f3_x2 (p1 : Int32) (r0 : Int32) (r1 : Int32) (r2 : Int32) (r3 : Int32) : Int32 := (if (own_get r0 r1 r2 r3 p1) = p1 then r2 else (if (own_get r0 r1 r2 r3 (own_get r0 r1 r2 r3 p1)) = (own_get r0 r1 r2 r3 p1) then r2 else (if (f3_0 p1 r0 r1 r2 r3) = (own_get r0 r1 r2 r3 (own_get r0 r1 r2 r3 p1)) then (f3_3 p1 r0 r1 r2 r3) else (f3_9 p1 r0 r1 r2 r3))))
def f3_x3 (p1 : Int32) (r0 : Int32) (r1 : Int32) (r2 : Int32) (r3 : Int32) : Int32 := (if (own_get r0 r1 r2 r3 p1) = p1 then r3 else (if (own_get r0 r1 r2 r3 (own_get r0 r1 r2 r3 p1)) = (own_get r0 r1 r2 r3 p1) then r3 else (if (f3_0 p1 r0 r1 r2 r3) = (own_get r0 r1 r2 r3 (own_get r0 r1 r2 r3 p1)) then (f3_4 p1 r0 r1 r2 r3) else (f3_10 p1 r0 r1 r2 r3))))
def f3 (p1 : Int32) (r0 : Int32) (r1 : Int32) (r2 : Int32) (r3 : Int32) : Int32 := (if (own_get r0 r1 r2 r3 p1) = p1 then p1 else (if (own_get r0 r1 r2 r3 (own_get r0 r1 r2 r3 p1)) = (own_get r0 r1 r2 r3 p1) then (own_get r0 r1 r2 r3 p1) else (if (f3_0 p1 r0 r1 r2 r3) = (own_get r0 r1 r2 r3 (own_get r0 r1 r2 r3 p1)) then (own_get r0 r1 r2 r3 (own_get r0 r1 r2 r3 p1)) else (f3_0 p1 r0 r1 r2 r3))))
def fex0_0 (p3 : Int32) (p4 : Int32) (p5 : Int32) (p6 : Int32) (r0 : Int32) (r1 : Int32) (r2 : Int32) (r3 : Int32) : Int32 := (if (0 : Int32) = p5 then (if (0 : Int32) = p6 then (0 : Int32) else (1 : Int32)) else (0 : Int32))
def fex0_1 (p3 : Int32) (p4 : Int32) (p5 : Int32) (p6 : Int32) (r0 : Int32) (r1 : Int32) (r2 : Int32) (r3 : Int32) : Int32 := (if (0 : Int32) = p4 then (if (0 : Int32) = p6 then (0 : Int32) else (1 : Int32)) else (fex0_0 p3 p4 p5 p6 r0 r1 r2 r3))
def fex0_2 (p3 : Int32) (p4 : Int32) (p5 : Int32) (p6 : Int32) (r0 : Int32) (r1 : Int32) (r2 : Int32) (r3 : Int32) : Int32 := (if (0 : Int32) = p3 then (if (0 : Int32) = p6 then (0 : Int32) else (1 : Int32)) else (fex0_1 p3 p4 p5 p6 r0 r1 r2 r3))
def fex0_3 (p3 : Int32) (p4 : Int32) (p5 : Int32) (p6 : Int32) (r0 : Int32) (r1 : Int32) (r2 : Int32) (r3 : Int32) : Int32 := (if (fex0_2 p3 p4 p5 p6 r0 r1 r2 r3) = (0 : Int32) then r0 else p6)
def fex0 (p3 : Int32) (p4 : Int32) (p5 : Int32) (p6 : Int32) (r0 : Int32) (r1 : Int32) (r2 : Int32) (r3 : Int32) : Int32 := (fex0_3 p3 p4 p5 p6 r0 r1 r2 r3)
def fex1_0 (p3 : Int32) (p4 : Int32) (p5 : Int32) (p6 : Int32) (r0 : Int32) (r1 : Int32) (r2 : Int32) (r3 : Int32) : Int32 := (if (1 : Int32) = p5 then (if (1 : Int32) = p6 then (0 : Int32) else (1 : Int32)) else (0 : Int32))
def fex1_1 (p3 : Int32) (p4 : Int32) (p5 : Int32) (p6 : Int32) (r0 : Int32) (r1 : Int32) (r2 : Int32) (r3 : Int32) : Int32 := (if (1 : Int32) = p4 then (if (1 : Int32) = p6 then (0 : Int32) else (1 : Int32)) else (fex1_0 p3 p4 p5 p6 r0 r1 r2 r3))
def fex1_2 (p3 : Int32) (p4 : Int32) (p5 : Int32) (p6 : Int32) (r0 : Int32) (r1 : Int32) (r2 : Int32) (r3 : Int32) : Int32 := (if (1 : Int32) = p3 then (if (1 : Int32) = p6 then (0 : Int32) else (1 : Int32)) else (fex1_1 p3 p4 p5 p6 r0 r1 r2 r3))
def fex1_3 (p3 : Int32) (p4 : Int32) (p5 : Int32) (p6 : Int32) (r0 : Int32) (r1 : Int32) (r2 : Int32) (r3 : Int32) : Int32 := (if (fex1_2 p3 p4 p5 p6 r0 r1 r2 r3) = (0 : Int32) then r1 else p6)
def fex1 (p3 : Int32) (p4 : Int32) (p5 : Int32) (p6 : Int32) (r0 : Int32) (r1 : Int32) (r2 : Int32) (r3 : Int32) : Int32 := (fex1_3 p3 p4 p5 p6 r0 r1 r2 r3)
def fex2_0 (p3 : Int32) (p4 : Int32) (p5 : Int32) (p6 : Int32) (r0 : Int32) (r1 : Int32) (r2 : Int32) (r3 : Int32) : Int32 := (if (2 : Int32) = p5 then (if (2 : Int32) = p6 then (0 : Int32) else (1 : Int32)) else (0 : Int32))
def fex2_1 (p3 : Int32) (p4 : Int32) (p5 : Int32) (p6 : Int32) (r0 : Int32) (r1 : Int32) (r2 : Int32) (r3 : Int32) : Int32 := (if (2 : Int32) = p4 then (if (2 : Int32) = p6 then (0 : Int32) else (1 : Int32)) else (fex2_0 p3 p4 p5 p6 r0 r1 r2 r3))
def fex2_2 (p3 : Int32) (p4 : Int32) (p5 : Int32) (p6 : Int32) (r0 : Int32) (r1 : Int32) (r2 : Int32) (r3 : Int32) : Int32 := (if (2 : Int32) = p3 then (if (2 : Int32) = p6 then (0 : Int32) else (1 : Int32)) else (fex2_1 p3 p4 p5 p6 r0 r1 r2 r3))
def fex2_3 (p3 : Int32) (p4 : Int32) (p5 : Int32) (p6 : Int32) (r0 : Int32) (r1 : Int32) (r2 : Int32) (r3 : Int32) : Int32 := (if (fex2_2 p3 p4 p5 p6 r0 r1 r2 r3) = (0 : Int32) then r2 else p6)
def fex2 (p3 : Int32) (p4 : Int32) (p5 : Int32) (p6 : Int32) (r0 : Int32) (r1 : Int32) (r2 : Int32) (r3 : Int32) : Int32 := (fex2_3 p3 p4 p5 p6 r0 r1 r2 r3)
def fex3_0 (p3 : Int32) (p4 : Int32) (p5 : Int32) (p6 : Int32) (r0 : Int32) (r1 : Int32) (r2 : Int32) (r3 : Int32) : Int32 := (if (3 : Int32) = p5 then (if (3 : Int32) = p6 then (0 : Int32) else (1 : Int32)) else (0 : Int32))
def fex3_1 (p3 : Int32) (p4 : Int32) (p5 : Int32) (p6 : Int32) (r0 : Int32) (r1 : Int32) (r2 : Int32) (r3 : Int32) : Int32 := (if (3 : Int32) = p4 then (if (3 : Int32) = p6 then (0 : Int32) else (1 : Int32)) else (fex3_0 p3 p4 p5 p6 r0 r1 r2 r3))
def fex3_2 (p3 : Int32) (p4 : Int32) (p5 : Int32) (p6 : Int32) (r0 : Int32) (r1 : Int32) (r2 : Int32) (r3 : Int32) : Int32 := (if (3 : Int32) = p3 then (if (3 : Int32) = p6 then (0 : Int32) else (1 : Int32)) else (fex3_1 p3 p4 p5 p6 r0 r1 r2 r3))
def fex3_3 (p3 : Int32) (p4 : Int32) (p5 : Int32) (p6 : Int32) (r0 : Int32) (r1 : Int32) (r2 : Int32) (r3 : Int32) : Int32 := (if (fex3_2 p3 p4 p5 p6 r0 r1 r2 r3) = (0 : Int32) then r3 else p6)
def fex3 (p3 : Int32) (p4 : Int32) (p5 : Int32) (p6 : Int32) (r0 : Int32) (r1 : Int32) (r2 : Int32) (r3 : Int32) : Int32 := (fex3_3 p3 p4 p5 p6 r0 r1 r2 r3)
def f0_0 (p1 : Int32) (p2 : Int32) : Int32 := (f1 (0 : Int32) (p1 &&& (3 : Int32)) ((XT.ushr p1 (2 : Int32)) &&& (3 : Int32)) ((XT.ushr p1 (4 : Int32)) &&& (3 : Int32)) ((XT.ushr p1 (6 : Int32)) &&& (3 : Int32)))
def f0_1 (p1 : Int32) (p2 : Int32) : Int32 := (if (f0_0 p1 p2) = (0 : Int32) then (p1 &&& (3 : Int32)) else (0 : Int32))
def f0_2 (p1 : Int32) (p2 : Int32) : Int32 := (f1 (1 : Int32) (p1 &&& (3 : Int32)) ((XT.ushr p1 (2 : Int32)) &&& (3 : Int32)) ((XT.ushr p1 (4 : Int32)) &&& (3 : Int32)) ((XT.ushr p1 (6 : Int32)) &&& (3 : Int32)))
def f0_3 (p1 : Int32) (p2 : Int32) : Int32 := (if (f0_2 p1 p2) = (0 : Int32) then ((XT.ushr p1 (2 : Int32)) &&& (3 : Int32)) else (1 : Int32))
def f0_4 (p1 : Int32) (p2 : Int32) : Int32 := (f1 (2 : Int32) (p1 &&& (3 : Int32)) ((XT.ushr p1 (2 : Int32)) &&& (3 : Int32)) ((XT.ushr p1 (4 : Int32)) &&& (3 : Int32)) ((XT.ushr p1 (6 : Int32)) &&& (3 : Int32)))
def f0_5 (p1 : Int32) (p2 : Int32) : Int32 := (if (f0_4 p1 p2) = (0 : Int32) then ((XT.ushr p1 (4 : Int32)) &&& (3 : Int32)) else (2 : Int32))
def f0_6 (p1 : Int32) (p2 : Int32) : Int32 := (f1 (3 : Int32) (p1 &&& (3 : Int32)) ((XT.ushr p1 (2 : Int32)) &&& (3 : Int32)) ((XT.ushr p1 (4 : Int32)) &&& (3 : Int32)) ((XT.ushr p1 (6 : Int32)) &&& (3 : Int32)))
def f0_7 (p1 : Int32) (p2 : Int32) : Int32 := (if (f0_6 p1 p2) = (0 : Int32) then ((XT.ushr p1 (6 : Int32)) &&& (3 : Int32)) else (3 : Int32))
def f0_8 (p1 : Int32) (p2 : Int32) : Int32 := (own_get (f0_1 p1 p2) (f0_3 p1 p2) (f0_5 p1 p2) (f0_7 p1 p2) (p2 &&& (3 : Int32)))
def f0_9 (p1 : Int32) (p2 : Int32) : Int32 := (own_get (f0_1 p1 p2) (f0_3 p1 p2) (f0_5 p1 p2) (f0_7 p1 p2) (f0_8 p1 p2))
def f0_10 (p1 : Int32) (p2 : Int32) : Int32 := (own_get (f0_1 p1 p2) (f0_3 p1 p2) (f0_5 p1 p2) (f0_7 p1 p2) (f0_9 p1 p2))
def f0_11 (p1 : Int32) (p2 : Int32) : Int32 := (f3_x0 (p2 &&& (3 : Int32)) (f0_1 p1 p2) (f0_3 p1 p2) (f0_5 p1 p2) (f0_7 p1 p2))
def f0_12 (p1 : Int32) (p2 : Int32) : Int32 := (f3_x1 (p2 &&& (3 : Int32)) (f0_1 p1 p2) (f0_3 p1 p2) (f0_5 p1 p2) (f0_7 p1 p2))
def f0_13 (p1 : Int32) (p2 : Int32) : Int32 := (f3_x2 (p2 &&& (3 : Int32)) (f0_1 p1 p2) (f0_3 p1 p2) (f0_5 p1 p2) (f0_7 p1 p2))
def f0_14 (p1 : Int32) (p2 : Int32) : Int32 := (f3_x3 (p2 &&& (3 : Int32)) (f0_1 p1 p2) (f0_3 p1 p2) (f0_5 p1 p2) (f0_7 p1 p2))
def f0_15 (p1 : Int32) (p2 : Int32) : Int32 := (f3 (p2 &&& (3 : Int32)) (f0_1 p1 p2) (f0_3 p1 p2) (f0_5 p1 p2) (f0_7 p1 p2))
def f0_16 (p1 : Int32) (p2 : Int32) : Int32 := (fex0 (p2 &&& (3 : Int32)) (f0_8 p1 p2) (f0_9 p1 p2) (f0_10 p1 p2) (f0_1 p1 p2) (f0_3 p1 p2) (f0_5 p1 p2) (f0_7 p1 p2))
def f0_17 (p1 : Int32) (p2 : Int32) : Int32 := (fex1 (p2 &&& (3 : Int32)) (f0_8 p1 p2) (f0_9 p1 p2) (f0_10 p1 p2) (f0_1 p1 p2) (f0_3 p1 p2) (f0_5 p1 p2) (f0_7 p1 p2))
def f0_18 (p1 : Int32) (p2 : Int32) : Int32 := (fex2 (p2 &&& (3 : Int32)) (f0_8 p1 p2) (f0_9 p1 p2) (f0_10 p1 p2) (f0_1 p1 p2) (f0_3 p1 p2) (f0_5 p1 p2) (f0_7 p1 p2))
def f0_19 (p1 : Int32) (p2 : Int32) : Int32 := (fex3 (p2 &&& (3 : Int32)) (f0_8 p1 p2) (f0_9 p1 p2) (f0_10 p1 p2) (f0_1 p1 p2) (f0_3 p1 p2) (f0_5 p1 p2) (f0_7 p1 p2))
def f0_20 (p1 : Int32) (p2 : Int32) : Int32 := (if (f0_14 p1 p2) = (f0_19 p1 p2) then (1 : Int32) else (0 : Int32))
def f0_21 (p1 : Int32) (p2 : Int32) : Int32 := (if (f0_13 p1 p2) = (f0_18 p1 p2) then (f0_20 p1 p2) else (0 : Int32))
def f0_22 (p1 : Int32) (p2 : Int32) : Int32 := (if (f0_12 p1 p2) = (f0_17 p1 p2) then (f0_21 p1 p2) else (0 : Int32))
def f0_23 (p1 : Int32) (p2 : Int32) : Int32 := (if (f0_11 p1 p2) = (f0_16 p1 p2) then (f0_22 p1 p2) else (0 : Int32))
def f0 (p1 : Int32) (p2 : Int32) : Int32 := (if (f0_15 p1 p2) = (f0_10 p1 p2) then ((f0_23 p1 p2) &&& 1) else (0 : Int32))
def own_g0_0 (p r0 r1 r2 r3 : Int32) : Int32 := (f1 (0 : Int32) r0 r1 r2 r3)
def own_g0_1 (p r0 r1 r2 r3 : Int32) : Int32 := (if (own_g0_0 p r0 r1 r2 r3) = (0 : Int32) then r0 else (0 : Int32))
def own_g0_2 (p r0 r1 r2 r3 : Int32) : Int32 := (f1 (1 : Int32) r0 r1 r2 r3)
def own_g0_3 (p r0 r1 r2 r3 : Int32) : Int32 := (if (own_g0_2 p r0 r1 r2 r3) = (0 : Int32) then r1 else (1 : Int32))
def own_g0_4 (p r0 r1 r2 r3 : Int32) : Int32 := (f1 (2 : Int32) r0 r1 r2 r3)
def own_g0_5 (p r0 r1 r2 r3 : Int32) : Int32 := (if (own_g0_4 p r0 r1 r2 r3) = (0 : Int32) then r2 else (2 : Int32))
def own_g0_6 (p r0 r1 r2 r3 : Int32) : Int32 := (f1 (3 : Int32) r0 r1 r2 r3)
def own_g0_7 (p r0 r1 r2 r3 : Int32) : Int32 := (if (own_g0_6 p r0 r1 r2 r3) = (0 : Int32) then r3 else (3 : Int32))
def own_g0_8 (p r0 r1 r2 r3 : Int32) : Int32 := (own_get (own_g0_1 p r0 r1 r2 r3) (own_g0_3 p r0 r1 r2 r3) (own_g0_5 p r0 r1 r2 r3) (own_g0_7 p r0 r1 r2 r3) p)
def own_g0_9 (p r0 r1 r2 r3 : Int32) : Int32 := (own_get (own_g0_1 p r0 r1 r2 r3) (own_g0_3 p r0 r1 r2 r3) (own_g0_5 p r0 r1 r2 r3) (own_g0_7 p r0 r1 r2 r3) (own_g0_8 p r0 r1 r2 r3))
def own_g0_10 (p r0 r1 r2 r3 : Int32) : Int32 := (own_get (own_g0_1 p r0 r1 r2 r3) (own_g0_3 p r0 r1 r2 r3) (own_g0_5 p r0 r1 r2 r3) (own_g0_7 p r0 r1 r2 r3) (own_g0_9 p r0 r1 r2 r3))
def own_g0_11 (p r0 r1 r2 r3 : Int32) : Int32 := (f3_x0 p (own_g0_1 p r0 r1 r2 r3) (own_g0_3 p r0 r1 r2 r3) (own_g0_5 p r0 r1 r2 r3) (own_g0_7 p r0 r1 r2 r3))
def own_g0_12 (p r0 r1 r2 r3 : Int32) : Int32 := (f3_x1 p (own_g0_1 p r0 r1 r2 r3) (own_g0_3 p r0 r1 r2 r3) (own_g0_5 p r0 r1 r2 r3) (own_g0_7 p r0 r1 r2 r3))
def own_g0_13 (p r0 r1 r2 r3 : Int32) : Int32 := (f3_x2 p (own_g0_1 p r0 r1 r2 r3) (own_g0_3 p r0 r1 r2 r3) (own_g0_5 p r0 r1 r2 r3) (own_g0_7 p r0 r1 r2 r3))
def own_g0_14 (p r0 r1 r2 r3 : Int32) : Int32 := (f3_x3 p (own_g0_1 p r0 r1 r2 r3) (own_g0_3 p r0 r1 r2 r3) (own_g0_5 p r0 r1 r2 r3) (own_g0_7 p r0 r1 r2 r3))
def own_g0_15 (p r0 r1 r2 r3 : Int32) : Int32 := (f3 p (own_g0_1 p r0 r1 r2 r3) (own_g0_3 p r0 r1 r2 r3) (own_g0_5 p r0 r1 r2 r3) (own_g0_7 p r0 r1 r2 r3))
def own_g0_16 (p r0 r1 r2 r3 : Int32) : Int32 := (fex0 p (own_g0_8 p r0 r1 r2 r3) (own_g0_9 p r0 r1 r2 r3) (own_g0_10 p r0 r1 r2 r3) (own_g0_1 p r0 r1 r2 r3) (own_g0_3 p r0 r1 r2 r3) (own_g0_5 p r0 r1 r2 r3) (own_g0_7 p r0 r1 r2 r3))
def own_g0_17 (p r0 r1 r2 r3 : Int32) : Int32 := (fex1 p (own_g0_8 p r0 r1 r2 r3) (own_g0_9 p r0 r1 r2 r3) (own_g0_10 p r0 r1 r2 r3) (own_g0_1 p r0 r1 r2 r3) (own_g0_3 p r0 r1 r2 r3) (own_g0_5 p r0 r1 r2 r3) (own_g0_7 p r0 r1 r2 r3))
def own_g0_18 (p r0 r1 r2 r3 : Int32) : Int32 := (fex2 p (own_g0_8 p r0 r1 r2 r3) (own_g0_9 p r0 r1 r2 r3) (own_g0_10 p r0 r1 r2 r3) (own_g0_1 p r0 r1 r2 r3) (own_g0_3 p r0 r1 r2 r3) (own_g0_5 p r0 r1 r2 r3) (own_g0_7 p r0 r1 r2 r3))
def own_g0_19 (p r0 r1 r2 r3 : Int32) : Int32 := (fex3 p (own_g0_8 p r0 r1 r2 r3) (own_g0_9 p r0 r1 r2 r3) (own_g0_10 p r0 r1 r2 r3) (own_g0_1 p r0 r1 r2 r3) (own_g0_3 p r0 r1 r2 r3) (own_g0_5 p r0 r1 r2 r3) (own_g0_7 p r0 r1 r2 r3))
def own_g0_20 (p r0 r1 r2 r3 : Int32) : Int32 := (if (own_g0_14 p r0 r1 r2 r3) = (own_g0_19 p r0 r1 r2 r3) then (1 : Int32) else (0 : Int32))
def own_g0_21 (p r0 r1 r2 r3 : Int32) : Int32 := (if (own_g0_13 p r0 r1 r2 r3) = (own_g0_18 p r0 r1 r2 r3) then (own_g0_20 p r0 r1 r2 r3) else (0 : Int32))
def own_g0_22 (p r0 r1 r2 r3 : Int32) : Int32 := (if (own_g0_12 p r0 r1 r2 r3) = (own_g0_17 p r0 r1 r2 r3) then (own_g0_21 p r0 r1 r2 r3) else (0 : Int32))
def own_g0_23 (p r0 r1 r2 r3 : Int32) : Int32 := (if (own_g0_11 p r0 r1 r2 r3) = (own_g0_16 p r0 r1 r2 r3) then (own_g0_22 p r0 r1 r2 r3) else (0 : Int32))
def own_g0 (p r0 r1 r2 r3 : Int32) : Int32 := (if (own_g0_15 p r0 r1 r2 r3) = (own_g0_10 p r0 r1 r2 r3) then ((own_g0_23 p r0 r1 r2 r3) &&& 1) else (0 : Int32))
theorem own_for (p1 p2 : Int32) : own_get (f0_1 p1 p2) (f0_3 p1 p2) (f0_5 p1 p2) (f0_7 p1 p2) (own_get (f0_1 p1 p2) (f0_3 p1 p2) (f0_5 p1 p2) (f0_7 p1 p2) (own_get (f0_1 p1 p2) (f0_3 p1 p2) (f0_5 p1 p2) (f0_7 p1 p2) (own_get (f0_1 p1 p2) (f0_3 p1 p2) (f0_5 p1 p2) (f0_7 p1 p2) (p2 &&& (3 : Int32))))) = own_get (f0_1 p1 p2) (f0_3 p1 p2) (f0_5 p1 p2) (f0_7 p1 p2) (own_get (f0_1 p1 p2) (f0_3 p1 p2) (f0_5 p1 p2) (f0_7 p1 p2) (own_get (f0_1 p1 p2) (f0_3 p1 p2) (f0_5 p1 p2) (f0_7 p1 p2) (p2 &&& (3 : Int32)))) :=
  own_all (fun p r0 r1 r2 r3 => own_get (own_g0_1 p r0 r1 r2 r3) (own_g0_3 p r0 r1 r2 r3) (own_g0_5 p r0 r1 r2 r3) (own_g0_7 p r0 r1 r2 r3) (own_get (own_g0_1 p r0 r1 r2 r3) (own_g0_3 p r0 r1 r2 r3) (own_g0_5 p r0 r1 r2 r3) (own_g0_7 p r0 r1 r2 r3) (own_get (own_g0_1 p r0 r1 r2 r3) (own_g0_3 p r0 r1 r2 r3) (own_g0_5 p r0 r1 r2 r3) (own_g0_7 p r0 r1 r2 r3) (own_get (own_g0_1 p r0 r1 r2 r3) (own_g0_3 p r0 r1 r2 r3) (own_g0_5 p r0 r1 r2 r3) (own_g0_7 p r0 r1 r2 r3) p))) = own_get (own_g0_1 p r0 r1 r2 r3) (own_g0_3 p r0 r1 r2 r3) (own_g0_5 p r0 r1 r2 r3) (own_g0_7 p r0 r1 r2 r3) (own_get (own_g0_1 p r0 r1 r2 r3) (own_g0_3 p r0 r1 r2 r3) (own_g0_5 p r0 r1 r2 r3) (own_g0_7 p r0 r1 r2 r3) (own_get (own_g0_1 p r0 r1 r2 r3) (own_g0_3 p r0 r1 r2 r3) (own_g0_5 p r0 r1 r2 r3) (own_g0_7 p r0 r1 r2 r3) p))) (by decide +kernel) (own_and3 p2) (own_and3 p1) (own_and3 _) (own_and3 _) (own_and3 _)
theorem own_law (p1 p2 : Int32) : f0 p1 p2 = 1 :=
  own_all (fun p r0 r1 r2 r3 => own_g0 p r0 r1 r2 r3 = 1) (by decide +kernel) (own_and3 p2) (own_and3 p1) (own_and3 _) (own_and3 _) (own_and3 _)

abbrev own_G (tb : Tables) (e : Env) (below : List Frame) (Q : Outcome → State → Prop) (A : State) : Prop := ∃ s₂ o, Steps tb e below A s₂ ∧ s₂.status = .running ∧ Ended s₂ below o ∧ Q o s₂
theorem own_step {tb : Tables} {e : Env} {below : List Frame} {Q : Outcome → State → Prop} {A B : State} (h : ∀ t, Steps tb e below B t → Steps tb e below A t) (g : own_G tb e below Q B) : own_G tb e below Q A := by
  obtain ⟨s2, o, h1, h2⟩ := g
  exact ⟨s2, o, h _ h1, h2⟩
theorem own_aT {x y : Addr} (h : x = y) : XT.acmp .eq (.ref x) (.ref y) = true ∧ XT.acmp .ne (.ref x) (.ref y) = false := by subst h; exact ⟨by simp [XT.acmp], by simp [XT.acmp]⟩
theorem own_aF {x y : Addr} (h : ¬ x = y) : XT.acmp .eq (.ref x) (.ref y) = false ∧ XT.acmp .ne (.ref x) (.ref y) = true := by simp [XT.acmp, h]
theorem own_cl (x y : Int64) : XT.cmpL x y < 0 ↔ x < y := lw_lt x y
theorem own_cg (x y : Int64) : 0 < XT.cmpL x y ↔ y < x := lw_gt x y
theorem own_ce (x y : Int64) : XT.cmpL x y = 0 ↔ x = y := lw_eq x y
theorem pd_0 : parseMethodDescriptor "([II)I" = some ⟨[(.array .int), .int], some .int⟩ := by decide +kernel
theorem pd_1 : parseMethodDescriptor "([II)Z" = some ⟨[(.array .int), .int], some .boolean⟩ := by decide +kernel
theorem pd_2 : parseMethodDescriptor "(I[I)I" = some ⟨[.int, (.array .int)], some .int⟩ := by decide +kernel
theorem pd_3 : parseMethodDescriptor "([IIIIII)I" = some ⟨[(.array .int), .int, .int, .int, .int, .int], some .int⟩ := by decide +kernel
theorem d2_0 : decode method_4_code 0 = .ok (.aload_n 0, 1) := by decide +kernel
theorem d2_1 : decode method_4_code 1 = .ok (.aload_n 0, 1) := by decide +kernel
theorem d2_2 : decode method_4_code 2 = .ok (.aload_n 0, 1) := by decide +kernel
theorem d2_3 : decode method_4_code 3 = .ok (.aload_n 0, 1) := by decide +kernel
theorem d2_4 : decode method_4_code 4 = .ok (.iload_n 1, 1) := by decide +kernel
theorem d2_5 : decode method_4_code 5 = .ok (.iaload, 1) := by decide +kernel
theorem d2_6 : decode method_4_code 6 = .ok (.iaload, 1) := by decide +kernel
theorem d2_7 : decode method_4_code 7 = .ok (.iaload, 1) := by decide +kernel
theorem d2_8 : decode method_4_code 8 = .ok (.iaload, 1) := by decide +kernel
theorem d2_9 : decode method_4_code 9 = .ok (.ireturn, 1) := by decide +kernel
theorem pn_2 : plainName "com/example/bonn/bonn/ValueGroupsRootPinLaw" = true := by first | (simp [plainName, overriddenIn]; done) | decide +kernel
theorem ef_2 (m : MethodId) (a1 : Addr) (p2 : Int32) : entryFrame m #[(.ref a1), (.int p2)] 2 = mkF m 0 #[.val (.ref a1), .val (.int p2)] [] := by first | (simp [entryFrame, mkF, argsToLocals, Value.category]; done) | rfl
def Q2 (Z : State) (a1 : Addr) (p2 : Int32) (k1 : ClassId) (r0 : Int32) (r1 : Int32) (r2 : Int32) (r3 : Int32) (h0 : Heap) (n0 : Nat) (v : Option Value) (h : Heap) (L : List Loc) : Prop := v = some (.int (f2 p2 r0 r1 r2 r3)) ∧ Fr n0 L ∧ h = h0
set_option maxRecDepth 65536 in
set_option maxHeartbeats 40000000 in
theorem rm2 (l : Launch) (Z : State) (a0 : Array Value) (hw : ∀ d ∈ tables_1, d.before a0 Z = true) (ws : List Jvm.Cond) (a1 : Addr) (p2 : Int32) (k1 : ClassId) (r0 : Int32) (r1 : Int32) (r2 : Int32) (r3 : Int32) (h0 : Heap) (n0 : Nat) (Z0 : n0 ≤ h0.size) (A_a1 : Arv Z h0 a1 k1 .int (4 : Int32) [(.int r0), (.int r1), (.int r2), (.int r3)] (.int (0 : Int32))) (hs : own_in4 p2) (hr0 : own_in4 r0) (hr1 : own_in4 r1) (hr2 : own_in4 r2) (hr3 : own_in4 r3) :
    MetFree l (⟨"com/example/bonn/bonn/ValueGroupsRootPinLaw", "up4", "([II)I"⟩ : MethodName) (head1 (Jvm.Cond.code (⟨"com/example/bonn/bonn/ValueGroupsRootPinLaw", "up4", "([II)I"⟩ : MethodName) method_4_code 2 (some .int) :: ws) ({ frames := 0, cells := 0, slots := 0, locals := 0 } : Room)) (fun a U => a = #[(.ref a1), (.int p2)] ∧ Z.Warmed39 U.vm ∧ U.heap = h0) (fun _ _ _ _ _ => True) (fun _ U o U' => ∃ v L, o = .returned v ∧ Q2 Z a1 p2 k1 r0 r1 r2 r3 h0 n0 v U'.heap L ∧ FrameEnd U o U' L ({ frames := 0, cells := 0, slots := 0, locals := 0 } : Room).cells ({ frames := 0, cells := 0, slots := 0, locals := 0 } : Room).slots) := by
  refine MetFree.of_bodySF (plainFor_of_name pn_2) hisR ?_
  intro p e s m args below meth c s₁ Bd hml0 hP hK
  obtain ⟨rfl, hZ, hh⟩ := hP
  have hx := Bd.exec
  have hby := Bd.bytes
  have hml : c.maxLocals = 2 := hml0
  have hown : s.vm.findClass "com/example/bonn/bonn/ValueGroupsRootPinLaw" = some m.cls := findClass_of_methodNamed Bd.named
  have hnm := (name_of_methodNamed Bd.named Bd.method).1
  have X0 : Stand p l e ({ frames := 0, cells := 0, slots := 0, locals := 0 } : Room) s m #[(.ref a1), (.int p2)] below meth c s₁ [] 0 0 := Stand.of_body Bd
  have e0 : s₁.heap = h0 := by rw [← hh, Bd.state]; rfl
  have N0 := Fr.nil n0
  have pre0 : ∀ t, Steps p.tables e below (s₁.setTop (mkF m 0 #[.val (.ref a1), .val (.int p2)] [])) t → Steps p.tables e below (s₁.setTop (entryFrame m #[(.ref a1), (.int p2)] 2)) t := fun t k => castTop (ef_2 m a1 p2) k
  refine own_step (Q := fun o U' => ∃ v L, o = .returned v ∧ Q2 Z a1 p2 k1 r0 r1 r2 r3 h0 n0 v U'.heap L ∧ FrameEnd s o U' L ({ frames := 0, cells := 0, slots := 0, locals := 0 } : Room).cells ({ frames := 0, cells := 0, slots := 0, locals := 0 } : Room).slots) pre0 ?_
  obtain ⟨cl1, Ar1, -, S1, M1, H1, -⟩ := id A_a1
  have hj2 : own_in4 p2 := (own_all (fun p2 r0 r1 r2 r3 => own_in4 p2) (by decide +kernel) hs hr0 hr1 hr2 hr3)
  have hin1 := inb_of (j := p2) S1 (own_b4 hj2)
  have hat1 := H1.at hin1 (v := (.int (own_get r0 r1 r2 r3 p2))) (own_rd4 hj2)
  obtain ⟨cl3, Ar3, -, S3, M3, H3, -⟩ := id A_a1
  have hj4 : own_in4 (own_get r0 r1 r2 r3 p2) := (own_all (fun p2 r0 r1 r2 r3 => own_in4 (own_get r0 r1 r2 r3 p2)) (by decide +kernel) hs hr0 hr1 hr2 hr3)
  have hin3 := inb_of (j := (own_get r0 r1 r2 r3 p2)) S3 (own_b4 hj4)
  have hat3 := H3.at hin3 (v := (.int (own_get r0 r1 r2 r3 (own_get r0 r1 r2 r3 p2)))) (own_rd4 hj4)
  obtain ⟨cl5, Ar5, -, S5, M5, H5, -⟩ := id A_a1
  have hj6 : own_in4 (own_get r0 r1 r2 r3 (own_get r0 r1 r2 r3 p2)) := (own_all (fun p2 r0 r1 r2 r3 => own_in4 (own_get r0 r1 r2 r3 (own_get r0 r1 r2 r3 p2))) (by decide +kernel) hs hr0 hr1 hr2 hr3)
  have hin5 := inb_of (j := (own_get r0 r1 r2 r3 (own_get r0 r1 r2 r3 p2))) S5 (own_b4 hj6)
  have hat5 := H5.at hin5 (v := (.int (f2_0 p2 r0 r1 r2 r3))) (own_rd4 hj6)
  obtain ⟨cl7, Ar7, -, S7, M7, H7, -⟩ := id A_a1
  have hj8 : own_in4 (f2_0 p2 r0 r1 r2 r3) := (own_all (fun p2 r0 r1 r2 r3 => own_in4 (f2_0 p2 r0 r1 r2 r3)) (by decide +kernel) hs hr0 hr1 hr2 hr3)
  have hin7 := inb_of (j := (f2_0 p2 r0 r1 r2 r3)) S7 (own_b4 hj8)
  have hat7 := H7.at hin7 (v := (.int (own_get r0 r1 r2 r3 (f2_0 p2 r0 r1 r2 r3)))) (own_rd4 hj8)
  obtain ⟨fs, hr, hrun, hended, hW, hsame⟩ := X0.leave (v := some (.int (own_get r0 r1 r2 r3 (f2_0 p2 r0 r1 r2 r3)))) (fun h => by rw [Bd.returns] at h; cases h)
  refine ⟨_, _, ?_, hrun, hended, _, _, rfl, ?_, ⟨_, rfl⟩, hW, hsame.mono (by decide) (by decide)⟩
  · show Steps p.tables e below (s₁.setTop (mkF m 0 #[.val (.ref a1), .val (.int p2)] [])) _
    refine XS.aloadN X0.here hx rfl (hb hby d2_0) rfl rfl ?_
    show Steps p.tables e below (s₁.setTop (mkF m 1 #[.val (.ref a1), .val (.int p2)] [(.ref a1)])) _
    refine XS.aloadN X0.here hx rfl (hb hby d2_1) rfl rfl ?_
    show Steps p.tables e below (s₁.setTop (mkF m 2 #[.val (.ref a1), .val (.int p2)] [(.ref a1), (.ref a1)])) _
    refine XS.aloadN X0.here hx rfl (hb hby d2_2) rfl rfl ?_
    show Steps p.tables e below (s₁.setTop (mkF m 3 #[.val (.ref a1), .val (.int p2)] [(.ref a1), (.ref a1), (.ref a1)])) _
    refine XS.aloadN X0.here hx rfl (hb hby d2_3) rfl rfl ?_
    show Steps p.tables e below (s₁.setTop (mkF m 4 #[.val (.ref a1), .val (.int p2)] [(.ref a1), (.ref a1), (.ref a1), (.ref a1)])) _
    refine XS.iloadN X0.here hx rfl (hb hby d2_4) rfl ?_
    show Steps p.tables e below (s₁.setTop (mkF m 5 #[.val (.ref a1), .val (.int p2)] [(.int p2), (.ref a1), (.ref a1), (.ref a1), (.ref a1)])) _
    refine X0.iaload hx (j := p2) (v := (.int (own_get r0 r1 r2 r3 p2))) (by rw [e0]; exact Ar1.1) (State.isArrayOf_alike hZ.alike Ar1.2.1) Ar1.2.2 hin1 hat1 (g := (mkF m 5 #[.val (.ref a1), .val (.int p2)] [(.int p2), (.ref a1), (.ref a1), (.ref a1), (.ref a1)])) rfl rfl (hb hby d2_5) _ ?_
    show Steps p.tables e below (s₁.setTop (mkF m 6 #[.val (.ref a1), .val (.int p2)] [(.int (own_get r0 r1 r2 r3 p2)), (.ref a1), (.ref a1), (.ref a1)])) _
    refine X0.iaload hx (j := (own_get r0 r1 r2 r3 p2)) (v := (.int (own_get r0 r1 r2 r3 (own_get r0 r1 r2 r3 p2)))) (by rw [e0]; exact Ar3.1) (State.isArrayOf_alike hZ.alike Ar3.2.1) Ar3.2.2 hin3 hat3 (g := (mkF m 6 #[.val (.ref a1), .val (.int p2)] [(.int (own_get r0 r1 r2 r3 p2)), (.ref a1), (.ref a1), (.ref a1)])) rfl rfl (hb hby d2_6) _ ?_
    show Steps p.tables e below (s₁.setTop (mkF m 7 #[.val (.ref a1), .val (.int p2)] [(.int (own_get r0 r1 r2 r3 (own_get r0 r1 r2 r3 p2))), (.ref a1), (.ref a1)])) _
    refine X0.iaload hx (j := (own_get r0 r1 r2 r3 (own_get r0 r1 r2 r3 p2))) (v := (.int (f2_0 p2 r0 r1 r2 r3))) (by rw [e0]; exact Ar5.1) (State.isArrayOf_alike hZ.alike Ar5.2.1) Ar5.2.2 hin5 hat5 (g := (mkF m 7 #[.val (.ref a1), .val (.int p2)] [(.int (own_get r0 r1 r2 r3 (own_get r0 r1 r2 r3 p2))), (.ref a1), (.ref a1)])) rfl rfl (hb hby d2_7) _ ?_
    show Steps p.tables e below (s₁.setTop (mkF m 8 #[.val (.ref a1), .val (.int p2)] [(.int (f2_0 p2 r0 r1 r2 r3)), (.ref a1)])) _
    refine X0.iaload hx (j := (f2_0 p2 r0 r1 r2 r3)) (v := (.int (own_get r0 r1 r2 r3 (f2_0 p2 r0 r1 r2 r3)))) (by rw [e0]; exact Ar7.1) (State.isArrayOf_alike hZ.alike Ar7.2.1) Ar7.2.2 hin7 hat7 (g := (mkF m 8 #[.val (.ref a1), .val (.int p2)] [(.int (f2_0 p2 r0 r1 r2 r3)), (.ref a1)])) rfl rfl (hb hby d2_8) _ ?_
    show Steps p.tables e below (s₁.setTop (mkF m 9 #[.val (.ref a1), .val (.int p2)] [(.int (own_get r0 r1 r2 r3 (f2_0 p2 r0 r1 r2 r3)))])) _
    exact retI X0 hx Bd.returns (hb hby d2_9) hr
  · show Q2 Z a1 p2 k1 r0 r1 r2 r3 h0 n0 _ s₁.heap _
    rw [e0]
    have hf : f2 p2 r0 r1 r2 r3 = (own_get r0 r1 r2 r3 (f2_0 p2 r0 r1 r2 r3)) := rfl
    exact ⟨by rw [hf], N0, rfl⟩
theorem d1_0 : decode method_5_code 0 = .ok (.aload_n 0, 1) := by decide +kernel
theorem d1_1 : decode method_5_code 1 = .ok (.aload_n 0, 1) := by decide +kernel
theorem d1_2 : decode method_5_code 2 = .ok (.aload_n 0, 1) := by decide +kernel
theorem d1_3 : decode method_5_code 3 = .ok (.iload_n 1, 1) := by decide +kernel
theorem d1_4 : decode method_5_code 4 = .ok (.invokestatic 23, 3) := by decide +kernel
theorem d1_7 : decode method_5_code 7 = .ok (.invokestatic 23, 3) := by decide +kernel
theorem d1_10 : decode method_5_code 10 = .ok (.invokestatic 23, 3) := by decide +kernel
theorem d1_13 : decode method_5_code 13 = .ok (.iload_n 1, 1) := by decide +kernel
theorem d1_14 : decode method_5_code 14 = .ok (.if_icmp .ne 7, 3) := by decide +kernel
theorem d1_17 : decode method_5_code 17 = .ok (.iconst 1, 1) := by decide +kernel
theorem d1_18 : decode method_5_code 18 = .ok (.goto 4, 3) := by decide +kernel
theorem d1_21 : decode method_5_code 21 = .ok (.iconst 0, 1) := by decide +kernel
theorem d1_22 : decode method_5_code 22 = .ok (.ireturn, 1) := by decide +kernel
theorem pn_1 : plainName "com/example/bonn/bonn/ValueGroupsRootPinLaw" = true := by first | (simp [plainName, overriddenIn]; done) | decide +kernel
theorem ef_1 (m : MethodId) (a1 : Addr) (p2 : Int32) : entryFrame m #[(.ref a1), (.int p2)] 2 = mkF m 0 #[.val (.ref a1), .val (.int p2)] [] := by first | (simp [entryFrame, mkF, argsToLocals, Value.category]; done) | rfl
def Q1 (Z : State) (a1 : Addr) (p2 : Int32) (k1 : ClassId) (r0 : Int32) (r1 : Int32) (r2 : Int32) (r3 : Int32) (h0 : Heap) (n0 : Nat) (v : Option Value) (h : Heap) (L : List Loc) : Prop := v = some (.int (f1 p2 r0 r1 r2 r3)) ∧ Fr n0 L ∧ h = h0
set_option maxRecDepth 65536 in
set_option maxHeartbeats 40000000 in
theorem rm1 (l : Launch) (Z : State) (a0 : Array Value) (hw : ∀ d ∈ tables_1, d.before a0 Z = true) (ws : List Jvm.Cond) (a1 : Addr) (p2 : Int32) (k1 : ClassId) (r0 : Int32) (r1 : Int32) (r2 : Int32) (r3 : Int32) (h0 : Heap) (n0 : Nat) (Z0 : n0 ≤ h0.size) (A_a1 : Arv Z h0 a1 k1 .int (4 : Int32) [(.int r0), (.int r1), (.int r2), (.int r3)] (.int (0 : Int32))) (hs : own_in4 p2) (hr0 : own_in4 r0) (hr1 : own_in4 r1) (hr2 : own_in4 r2) (hr3 : own_in4 r3) :
    MetFree l (⟨"com/example/bonn/bonn/ValueGroupsRootPinLaw", "onCycle", "([II)Z"⟩ : MethodName) (head1 (Jvm.Cond.code (⟨"com/example/bonn/bonn/ValueGroupsRootPinLaw", "onCycle", "([II)Z"⟩ : MethodName) method_5_code 2 (some .boolean) :: ws) ({ frames := 1, cells := 0, slots := 0, locals := 15 } : Room)) (fun a U => a = #[(.ref a1), (.int p2)] ∧ Z.Warmed39 U.vm ∧ U.heap = h0) (fun _ _ _ _ _ => True) (fun _ U o U' => ∃ v L, o = .returned v ∧ Q1 Z a1 p2 k1 r0 r1 r2 r3 h0 n0 v U'.heap L ∧ FrameEnd U o U' L ({ frames := 1, cells := 0, slots := 0, locals := 15 } : Room).cells ({ frames := 1, cells := 0, slots := 0, locals := 15 } : Room).slots) := by
  refine MetFree.of_bodySF (plainFor_of_name pn_1) hisR ?_
  intro p e s m args below meth c s₁ Bd hml0 hP hK
  obtain ⟨rfl, hZ, hh⟩ := hP
  have hx := Bd.exec
  have hby := Bd.bytes
  have hml : c.maxLocals = 2 := hml0
  have hown : s.vm.findClass "com/example/bonn/bonn/ValueGroupsRootPinLaw" = some m.cls := findClass_of_methodNamed Bd.named
  have hnm := (name_of_methodNamed Bd.named Bd.method).1
  have X0 : Stand p l e ({ frames := 1, cells := 0, slots := 0, locals := 15 } : Room) s m #[(.ref a1), (.int p2)] below meth c s₁ [] 0 0 := Stand.of_body Bd
  have e0 : s₁.heap = h0 := by rw [← hh, Bd.state]; rfl
  have N0 := Fr.nil n0
  have pre0 : ∀ t, Steps p.tables e below (s₁.setTop (mkF m 0 #[.val (.ref a1), .val (.int p2)] [])) t → Steps p.tables e below (s₁.setTop (entryFrame m #[(.ref a1), (.int p2)] 2)) t := fun t k => castTop (ef_1 m a1 p2) k
  refine own_step (Q := fun o U' => ∃ v L, o = .returned v ∧ Q1 Z a1 p2 k1 r0 r1 r2 r3 h0 n0 v U'.heap L ∧ FrameEnd s o U' L ({ frames := 1, cells := 0, slots := 0, locals := 15 } : Room).cells ({ frames := 1, cells := 0, slots := 0, locals := 15 } : Room).slots) pre0 ?_
  obtain ⟨_, _, ⟨T1, L1, k1, n1⟩, -, X1, ⟨Lc1, hQ1, l1, y1, z1⟩, st1⟩ := Jvm.LawKit.callS X0 hx (y := (⟨"com/example/bonn/bonn/ValueGroupsRootPinLaw", "up4", "([II)I"⟩ : MethodName)) hown (mvT hZ (hw _ (List.mem_of_getElem? (i := 5) rfl))) (mvT hZ (hw _ (List.mem_of_getElem? (i := 6) rfl))) (mvT hZ (hw _ (List.mem_of_getElem? (i := 3) rfl))) (mvT hZ (hw _ (List.mem_of_getElem? (i := 7) rfl))) (by decide) (backOf (W := 2) (rm2 l Z a0 hw [] a1 p2 k1 r0 r1 r2 r3 h0 n0 Z0 A_a1 hs hr0 hr1 hr2 hr3) hZ (hw _ (List.mem_of_getElem? (i := 7) rfl)) (hw _ (List.mem_of_getElem? (i := 3) rfl)) (by decide) (by decide)) (g := (mkF m 4 #[.val (.ref a1), .val (.int p2)] [(.int p2), (.ref a1), (.ref a1), (.ref a1)])) rfl (by rw [hml]; rfl) (argsL := [(.ref a1), (.int p2)]) (rest := [(.ref a1), (.ref a1)]) (lenOf pd_0 rfl) rfl (by show 2 * 0 + _ ≤ _; exact Nat.le_of_eq rfl) (hb hby d1_4) (fun _ _ => ⟨rfl, e0, (by decide : 0 + 0 ≤ _), (by decide : 0 + 0 ≤ _)⟩)
  dsimp only [Pt.U, Pt.locs, Pt.cells, Pt.slots] at X1 l1 y1 z1 st1 hQ1
  subst l1 y1 z1
  obtain ⟨rfl, N1q, e1⟩ := hQ1
  have N1 := Fr.app N0 N1q
  obtain ⟨_, _, ⟨T2, L2, k2, n2⟩, -, X2, ⟨Lc2, hQ2, l2, y2, z2⟩, st2⟩ := Jvm.LawKit.callS X1 hx (y := (⟨"com/example/bonn/bonn/ValueGroupsRootPinLaw", "up4", "([II)I"⟩ : MethodName)) hown (mvT hZ (hw _ (List.mem_of_getElem? (i := 5) rfl))) (mvT hZ (hw _ (List.mem_of_getElem? (i := 6) rfl))) (mvT hZ (hw _ (List.mem_of_getElem? (i := 3) rfl))) (mvT hZ (hw _ (List.mem_of_getElem? (i := 7) rfl))) (by decide) (backOf (W := 1) (rm2 l Z a0 hw [] a1 (f2 p2 r0 r1 r2 r3) k1 r0 r1 r2 r3 h0 n0 Z0 A_a1 (own_all (fun p2 r0 r1 r2 r3 => own_in4 (f2 p2 r0 r1 r2 r3)) (by decide +kernel) hs hr0 hr1 hr2 hr3) hr0 hr1 hr2 hr3) hZ (hw _ (List.mem_of_getElem? (i := 7) rfl)) (hw _ (List.mem_of_getElem? (i := 3) rfl)) (by decide) (by decide)) (g := (mkF m 7 #[.val (.ref a1), .val (.int p2)] [(.int (f2 p2 r0 r1 r2 r3)), (.ref a1), (.ref a1)])) rfl (by rw [hml]; rfl) (argsL := [(.ref a1), (.int (f2 p2 r0 r1 r2 r3))]) (rest := [(.ref a1)]) (lenOf pd_0 rfl) rfl (by show 2 * 0 + _ ≤ _; exact Nat.le_of_eq rfl) (hb hby d1_7) (fun _ _ => ⟨rfl, e1, (by decide : 0 + 0 ≤ _), (by decide : 0 + 0 ≤ _)⟩)
  dsimp only [Pt.U, Pt.locs, Pt.cells, Pt.slots] at X2 l2 y2 z2 st2 hQ2
  subst l2 y2 z2
  obtain ⟨rfl, N2q, e2⟩ := hQ2
  have N2 := Fr.app N1 N2q
  obtain ⟨_, _, ⟨T3, L3, k3, n3⟩, -, X3, ⟨Lc3, hQ3, l3, y3, z3⟩, st3⟩ := Jvm.LawKit.callS X2 hx (y := (⟨"com/example/bonn/bonn/ValueGroupsRootPinLaw", "up4", "([II)I"⟩ : MethodName)) hown (mvT hZ (hw _ (List.mem_of_getElem? (i := 5) rfl))) (mvT hZ (hw _ (List.mem_of_getElem? (i := 6) rfl))) (mvT hZ (hw _ (List.mem_of_getElem? (i := 3) rfl))) (mvT hZ (hw _ (List.mem_of_getElem? (i := 7) rfl))) (by decide) (backOf (W := 0) (rm2 l Z a0 hw [] a1 (f2 (f2 p2 r0 r1 r2 r3) r0 r1 r2 r3) k1 r0 r1 r2 r3 h0 n0 Z0 A_a1 (own_all (fun p2 r0 r1 r2 r3 => own_in4 (f2 (f2 p2 r0 r1 r2 r3) r0 r1 r2 r3)) (by decide +kernel) hs hr0 hr1 hr2 hr3) hr0 hr1 hr2 hr3) hZ (hw _ (List.mem_of_getElem? (i := 7) rfl)) (hw _ (List.mem_of_getElem? (i := 3) rfl)) (by decide) (by decide)) (g := (mkF m 10 #[.val (.ref a1), .val (.int p2)] [(.int (f2 (f2 p2 r0 r1 r2 r3) r0 r1 r2 r3)), (.ref a1)])) rfl (by rw [hml]; rfl) (argsL := [(.ref a1), (.int (f2 (f2 p2 r0 r1 r2 r3) r0 r1 r2 r3))]) (rest := []) (lenOf pd_0 rfl) rfl (by show 2 * 0 + _ ≤ _; exact Nat.le_of_eq rfl) (hb hby d1_10) (fun _ _ => ⟨rfl, e2, (by decide : 0 + 0 ≤ _), (by decide : 0 + 0 ≤ _)⟩)
  dsimp only [Pt.U, Pt.locs, Pt.cells, Pt.slots] at X3 l3 y3 z3 st3 hQ3
  subst l3 y3 z3
  obtain ⟨rfl, N3q, e3⟩ := hQ3
  have N3 := Fr.app N2 N3q
  have st5 : ∀ t, Steps p.tables e below (T3.setTop (mkF m 22 #[.val (.ref a1), .val (.int p2)] [(.int (f1_0 p2 r0 r1 r2 r3))])) t → Steps p.tables e below (T3.setTop (mkF m 14 #[.val (.ref a1), .val (.int p2)] [(.int p2), (.int (f2 (f2 (f2 p2 r0 r1 r2 r3) r0 r1 r2 r3) r0 r1 r2 r3))])) t := by
    intro t k
    by_cases h4 : (f2 (f2 (f2 p2 r0 r1 r2 r3) r0 r1 r2 r3) r0 r1 r2 r3) = p2
    · rw [show (f1_0 p2 r0 r1 r2 r3) = (1 : Int32) from if_pos h4] at k
      show Steps p.tables e below (T3.setTop (mkF m 14 #[.val (.ref a1), .val (.int p2)] [(.int p2), (.int (f2 (f2 (f2 p2 r0 r1 r2 r3) r0 r1 r2 r3) r0 r1 r2 r3))])) _
      refine XS.icmpNo X3.here hx rfl (hb hby d1_14) rfl (teq h4).2 ?_
      show Steps p.tables e below (T3.setTop (mkF m 17 #[.val (.ref a1), .val (.int p2)] [])) _
      refine XS.iconst X3.here hx rfl (hb hby d1_17) ?_
      show Steps p.tables e below (T3.setTop (mkF m 18 #[.val (.ref a1), .val (.int p2)] [(.int (1 : Int32))])) _
      refine XS.goto X3.here hx rfl (pc0 := 18) (pc' := 22) rfl (hb hby d1_18) (by decide) (by decide) ?_
      exact k
    · rw [show (f1_0 p2 r0 r1 r2 r3) = (0 : Int32) from if_neg h4] at k
      show Steps p.tables e below (T3.setTop (mkF m 14 #[.val (.ref a1), .val (.int p2)] [(.int p2), (.int (f2 (f2 (f2 p2 r0 r1 r2 r3) r0 r1 r2 r3) r0 r1 r2 r3))])) _
      refine XS.icmpYes X3.here hx rfl (pc0 := 14) (pc' := 21) rfl (hb hby d1_14) rfl (feq h4).2 (by decide) (by decide) ?_
      show Steps p.tables e below (T3.setTop (mkF m 21 #[.val (.ref a1), .val (.int p2)] [])) _
      refine XS.iconst X3.here hx rfl (hb hby d1_21) ?_
      exact k
  obtain ⟨fs, hr, hrun, hended, hW, hsame⟩ := X3.leave (v := some (.int ((f1_0 p2 r0 r1 r2 r3) &&& 1))) (fun h => by rw [Bd.returns] at h; cases h)
  refine ⟨_, _, ?_, hrun, hended, _, _, rfl, ?_, ⟨_, rfl⟩, hW, hsame.mono (by decide) (by decide)⟩
  · show Steps p.tables e below (s₁.setTop (mkF m 0 #[.val (.ref a1), .val (.int p2)] [])) _
    refine XS.aloadN X0.here hx rfl (hb hby d1_0) rfl rfl ?_
    show Steps p.tables e below (s₁.setTop (mkF m 1 #[.val (.ref a1), .val (.int p2)] [(.ref a1)])) _
    refine XS.aloadN X0.here hx rfl (hb hby d1_1) rfl rfl ?_
    show Steps p.tables e below (s₁.setTop (mkF m 2 #[.val (.ref a1), .val (.int p2)] [(.ref a1), (.ref a1)])) _
    refine XS.aloadN X0.here hx rfl (hb hby d1_2) rfl rfl ?_
    show Steps p.tables e below (s₁.setTop (mkF m 3 #[.val (.ref a1), .val (.int p2)] [(.ref a1), (.ref a1), (.ref a1)])) _
    refine XS.iloadN X0.here hx rfl (hb hby d1_3) rfl ?_
    show Steps p.tables e below (s₁.setTop (mkF m 4 #[.val (.ref a1), .val (.int p2)] [(.int p2), (.ref a1), (.ref a1), (.ref a1)])) _
    refine st1 _ ?_
    show Steps p.tables e below (T1.setTop (mkF m 7 #[.val (.ref a1), .val (.int p2)] [(.int (f2 p2 r0 r1 r2 r3)), (.ref a1), (.ref a1)])) _
    refine st2 _ ?_
    show Steps p.tables e below (T2.setTop (mkF m 10 #[.val (.ref a1), .val (.int p2)] [(.int (f2 (f2 p2 r0 r1 r2 r3) r0 r1 r2 r3)), (.ref a1)])) _
    refine st3 _ ?_
    show Steps p.tables e below (T3.setTop (mkF m 13 #[.val (.ref a1), .val (.int p2)] [(.int (f2 (f2 (f2 p2 r0 r1 r2 r3) r0 r1 r2 r3) r0 r1 r2 r3))])) _
    refine XS.iloadN X3.here hx rfl (hb hby d1_13) rfl ?_
    show Steps p.tables e below (T3.setTop (mkF m 14 #[.val (.ref a1), .val (.int p2)] [(.int p2), (.int (f2 (f2 (f2 p2 r0 r1 r2 r3) r0 r1 r2 r3) r0 r1 r2 r3))])) _
    refine st5 _ ?_
    show Steps p.tables e below (T3.setTop (mkF m 22 #[.val (.ref a1), .val (.int p2)] [(.int (f1_0 p2 r0 r1 r2 r3))])) _
    exact retN X3 hx (t := .boolean) Bd.returns (by simp) (hb hby d1_22) hr
  · show Q1 Z a1 p2 k1 r0 r1 r2 r3 h0 n0 _ T3.heap _
    rw [e3]
    have hf : f1 p2 r0 r1 r2 r3 = ((f1_0 p2 r0 r1 r2 r3) &&& 1) := rfl
    exact ⟨by rw [hf], N3, rfl⟩
theorem d3_0 : decode prog_112_method_7_code 0 = .ok (.iload_n 0, 1) := by decide +kernel
theorem d3_1 : decode prog_112_method_7_code 1 = .ok (.istore_n 2, 1) := by decide +kernel
theorem d3_2 : decode prog_112_method_7_code 2 = .ok (.aload_n 1, 1) := by decide +kernel
theorem d3_3 : decode prog_112_method_7_code 3 = .ok (.iload_n 2, 1) := by decide +kernel
theorem d3_4 : decode prog_112_method_7_code 4 = .ok (.iaload, 1) := by decide +kernel
theorem d3_5 : decode prog_112_method_7_code 5 = .ok (.iload_n 2, 1) := by decide +kernel
theorem d3_6 : decode prog_112_method_7_code 6 = .ok (.if_icmp .eq 10, 3) := by decide +kernel
theorem d3_9 : decode prog_112_method_7_code 9 = .ok (.aload_n 1, 1) := by decide +kernel
theorem d3_10 : decode prog_112_method_7_code 10 = .ok (.iload_n 2, 1) := by decide +kernel
theorem d3_11 : decode prog_112_method_7_code 11 = .ok (.iaload, 1) := by decide +kernel
theorem d3_12 : decode prog_112_method_7_code 12 = .ok (.istore_n 2, 1) := by decide +kernel
theorem d3_13 : decode prog_112_method_7_code 13 = .ok (.goto (-11), 3) := by decide +kernel
theorem d3_16 : decode prog_112_method_7_code 16 = .ok (.iload_n 0, 1) := by decide +kernel
theorem d3_17 : decode prog_112_method_7_code 17 = .ok (.istore_n 3, 1) := by decide +kernel
theorem d3_18 : decode prog_112_method_7_code 18 = .ok (.aload_n 1, 1) := by decide +kernel
theorem d3_19 : decode prog_112_method_7_code 19 = .ok (.iload_n 3, 1) := by decide +kernel
theorem d3_20 : decode prog_112_method_7_code 20 = .ok (.iaload, 1) := by decide +kernel
theorem d3_21 : decode prog_112_method_7_code 21 = .ok (.iload_n 2, 1) := by decide +kernel
theorem d3_22 : decode prog_112_method_7_code 22 = .ok (.if_icmp .eq 18, 3) := by decide +kernel
theorem d3_25 : decode prog_112_method_7_code 25 = .ok (.aload_n 1, 1) := by decide +kernel
theorem d3_26 : decode prog_112_method_7_code 26 = .ok (.iload_n 3, 1) := by decide +kernel
theorem d3_27 : decode prog_112_method_7_code 27 = .ok (.iaload, 1) := by decide +kernel
theorem d3_28 : decode prog_112_method_7_code 28 = .ok (.istore 4, 2) := by decide +kernel
theorem d3_30 : decode prog_112_method_7_code 30 = .ok (.aload_n 1, 1) := by decide +kernel
theorem d3_31 : decode prog_112_method_7_code 31 = .ok (.iload_n 3, 1) := by decide +kernel
theorem d3_32 : decode prog_112_method_7_code 32 = .ok (.iload_n 2, 1) := by decide +kernel
theorem d3_33 : decode prog_112_method_7_code 33 = .ok (.iastore, 1) := by decide +kernel
theorem d3_34 : decode prog_112_method_7_code 34 = .ok (.iload 4, 2) := by decide +kernel
theorem d3_36 : decode prog_112_method_7_code 36 = .ok (.istore_n 3, 1) := by decide +kernel
theorem d3_37 : decode prog_112_method_7_code 37 = .ok (.goto (-19), 3) := by decide +kernel
theorem d3_40 : decode prog_112_method_7_code 40 = .ok (.iload_n 2, 1) := by decide +kernel
theorem d3_41 : decode prog_112_method_7_code 41 = .ok (.ireturn, 1) := by decide +kernel
theorem pn_3 : plainName "com/example/bonn/bonn/ValueGroups" = true := by first | (simp [plainName, overriddenIn]; done) | decide +kernel
theorem ef_3 (m : MethodId) (p1 : Int32) (a2 : Addr) : entryFrame m #[(.int p1), (.ref a2)] 5 = mkF m 0 #[.val (.int p1), .val (.ref a2), .unset, .unset, .unset] [] := by first | (simp [entryFrame, mkF, argsToLocals, Value.category]; done) | rfl
def Q3 (Z : State) (p1 : Int32) (a2 : Addr) (k1 : ClassId) (r0 : Int32) (r1 : Int32) (r2 : Int32) (r3 : Int32) (h0 : Heap) (n0 : Nat) (v : Option Value) (h : Heap) (L : List Loc) : Prop := v = some (.int (f3 p1 r0 r1 r2 r3)) ∧ Fr n0 L ∧ Keep h0 h [a2] ∧ (Arv Z h a2 k1 .int (4 : Int32) [(.int (f3_x0 p1 r0 r1 r2 r3)), (.int (f3_x1 p1 r0 r1 r2 r3)), (.int (f3_x2 p1 r0 r1 r2 r3)), (.int (f3_x3 p1 r0 r1 r2 r3))] (.int (0 : Int32)))
set_option maxRecDepth 65536 in
set_option maxHeartbeats 40000000 in
theorem rm3 (l : Launch) (Z : State) (a0 : Array Value) (hw : ∀ d ∈ tables_1, d.before a0 Z = true) (ws : List Jvm.Cond) (p1 : Int32) (a2 : Addr) (k1 : ClassId) (r0 : Int32) (r1 : Int32) (r2 : Int32) (r3 : Int32) (h0 : Heap) (n0 : Nat) (Z0 : n0 ≤ h0.size) (A_a2 : Arv Z h0 a2 k1 .int (4 : Int32) [(.int r0), (.int r1), (.int r2), (.int r3)] (.int (0 : Int32))) (G_a2 : n0 ≤ a2) (hs : own_in4 p1) (hr0 : own_in4 r0) (hr1 : own_in4 r1) (hr2 : own_in4 r2) (hr3 : own_in4 r3) (hf : own_get r0 r1 r2 r3 (own_get r0 r1 r2 r3 (own_get r0 r1 r2 r3 (own_get r0 r1 r2 r3 p1))) = own_get r0 r1 r2 r3 (own_get r0 r1 r2 r3 (own_get r0 r1 r2 r3 p1))) :
    MetFree l (⟨"com/example/bonn/bonn/ValueGroups", "root", "(I[I)I"⟩ : MethodName) (head1 (Jvm.Cond.code (⟨"com/example/bonn/bonn/ValueGroups", "root", "(I[I)I"⟩ : MethodName) prog_112_method_7_code 5 (some .int) :: ws) ({ frames := 0, cells := 0, slots := 0, locals := 0 } : Room)) (fun a U => a = #[(.int p1), (.ref a2)] ∧ Z.Warmed39 U.vm ∧ U.heap = h0) (fun _ _ _ _ _ => True) (fun _ U o U' => ∃ v L, o = .returned v ∧ Q3 Z p1 a2 k1 r0 r1 r2 r3 h0 n0 v U'.heap L ∧ FrameEnd U o U' L ({ frames := 0, cells := 0, slots := 0, locals := 0 } : Room).cells ({ frames := 0, cells := 0, slots := 0, locals := 0 } : Room).slots) := by
  refine MetFree.of_bodySF (plainFor_of_name pn_3) hisR ?_
  intro p e s m args below meth c s₁ Bd hml0 hP hK
  obtain ⟨rfl, hZ, hh⟩ := hP
  have hx := Bd.exec
  have hby := Bd.bytes
  have hml : c.maxLocals = 5 := hml0
  have hown : s.vm.findClass "com/example/bonn/bonn/ValueGroups" = some m.cls := findClass_of_methodNamed Bd.named
  have hnm := (name_of_methodNamed Bd.named Bd.method).1
  have X0 : Stand p l e ({ frames := 0, cells := 0, slots := 0, locals := 0 } : Room) s m #[(.int p1), (.ref a2)] below meth c s₁ [] 0 0 := Stand.of_body Bd
  have e0 : s₁.heap = h0 := by rw [← hh, Bd.state]; rfl
  have N0 := Fr.nil n0
  have pre0 : ∀ t, Steps p.tables e below (s₁.setTop (mkF m 0 #[.val (.int p1), .val (.ref a2), .unset, .unset, .unset] [])) t → Steps p.tables e below (s₁.setTop (entryFrame m #[(.int p1), (.ref a2)] 5)) t := fun t k => castTop (ef_3 m p1 a2) k
  refine own_step (Q := fun o U' => ∃ v L, o = .returned v ∧ Q3 Z p1 a2 k1 r0 r1 r2 r3 h0 n0 v U'.heap L ∧ FrameEnd s o U' L ({ frames := 0, cells := 0, slots := 0, locals := 0 } : Room).cells ({ frames := 0, cells := 0, slots := 0, locals := 0 } : Room).slots) pre0 ?_
  have K0 : Keep h0 h0 [a2] := Keep.refl h0 [a2]
  obtain ⟨cl1, Ar1, -, S1, M1, H1, -⟩ := id A_a2
  have hj2 : own_in4 p1 := (own_all (fun p1 r0 r1 r2 r3 => (own_get r0 r1 r2 r3 (own_get r0 r1 r2 r3 (own_get r0 r1 r2 r3 (own_get r0 r1 r2 r3 p1))) = own_get r0 r1 r2 r3 (own_get r0 r1 r2 r3 (own_get r0 r1 r2 r3 p1))) → own_in4 p1) (by decide +kernel) hs hr0 hr1 hr2 hr3 hf)
  have hin1 := inb_of (j := p1) S1 (own_b4 hj2)
  have hat1 := H1.at hin1 (v := (.int (own_get r0 r1 r2 r3 p1))) (own_rd4 hj2)
  refine own_step (B := s₁.setTop (mkF m 6 #[.val (.int p1), .val (.ref a2), .val (.int p1), .unset, .unset] [(.int p1), (.int (own_get r0 r1 r2 r3 p1))])) (fun t k => ?_) ?_
  · show Steps p.tables e below (s₁.setTop (mkF m 0 #[.val (.int p1), .val (.ref a2), .unset, .unset, .unset] [])) _
    refine XS.iloadN X0.here hx rfl (hb hby d3_0) rfl ?_
    show Steps p.tables e below (s₁.setTop (mkF m 1 #[.val (.int p1), .val (.ref a2), .unset, .unset, .unset] [(.int p1)])) _
    refine XS.istoreN X0.here hx rfl (hb hby d3_1) rfl (l' := #[.val (.int p1), .val (.ref a2), .val (.int p1), .unset, .unset]) rfl ?_
    show Steps p.tables e below (s₁.setTop (mkF m 2 #[.val (.int p1), .val (.ref a2), .val (.int p1), .unset, .unset] [])) _
    refine XS.aloadN X0.here hx rfl (hb hby d3_2) rfl rfl ?_
    show Steps p.tables e below (s₁.setTop (mkF m 3 #[.val (.int p1), .val (.ref a2), .val (.int p1), .unset, .unset] [(.ref a2)])) _
    refine XS.iloadN X0.here hx rfl (hb hby d3_3) rfl ?_
    show Steps p.tables e below (s₁.setTop (mkF m 4 #[.val (.int p1), .val (.ref a2), .val (.int p1), .unset, .unset] [(.int p1), (.ref a2)])) _
    refine X0.iaload hx (j := p1) (v := (.int (own_get r0 r1 r2 r3 p1))) (by rw [e0]; exact Ar1.1) (State.isArrayOf_alike hZ.alike Ar1.2.1) Ar1.2.2 hin1 hat1 (g := (mkF m 4 #[.val (.int p1), .val (.ref a2), .val (.int p1), .unset, .unset] [(.int p1), (.ref a2)])) rfl rfl (hb hby d3_4) _ ?_
    show Steps p.tables e below (s₁.setTop (mkF m 5 #[.val (.int p1), .val (.ref a2), .val (.int p1), .unset, .unset] [(.int (own_get r0 r1 r2 r3 p1))])) _
    refine XS.iloadN X0.here hx rfl (hb hby d3_5) rfl ?_
    exact k
  by_cases h3 : (own_get r0 r1 r2 r3 p1) = p1
  · obtain ⟨cl4, Ar4, -, S4, M4, H4, -⟩ := id A_a2
    have hj5 : own_in4 p1 := (own_all (fun p1 r0 r1 r2 r3 => ((own_get r0 r1 r2 r3 p1) = p1) → (own_get r0 r1 r2 r3 (own_get r0 r1 r2 r3 (own_get r0 r1 r2 r3 (own_get r0 r1 r2 r3 p1))) = own_get r0 r1 r2 r3 (own_get r0 r1 r2 r3 (own_get r0 r1 r2 r3 p1))) → own_in4 p1) (by decide +kernel) hs hr0 hr1 hr2 hr3 h3 hf)
    have hin4 := inb_of (j := p1) S4 (own_b4 hj5)
    have hat4 := H4.at hin4 (v := (.int (own_get r0 r1 r2 r3 p1))) (own_rd4 hj5)
    have h6 : (own_get r0 r1 r2 r3 p1) = p1 := (own_all (fun p1 r0 r1 r2 r3 => ((own_get r0 r1 r2 r3 p1) = p1) → (own_get r0 r1 r2 r3 (own_get r0 r1 r2 r3 (own_get r0 r1 r2 r3 (own_get r0 r1 r2 r3 p1))) = own_get r0 r1 r2 r3 (own_get r0 r1 r2 r3 (own_get r0 r1 r2 r3 p1))) → (own_get r0 r1 r2 r3 p1) = p1) (by decide +kernel) hs hr0 hr1 hr2 hr3 h3 hf)
    obtain ⟨fs, hr, hrun, hended, hW, hsame⟩ := X0.leave (v := some (.int p1)) (fun h => by rw [Bd.returns] at h; cases h)
    refine ⟨_, _, ?_, hrun, hended, _, _, rfl, ?_, ⟨_, rfl⟩, hW, hsame.mono (by decide) (by decide)⟩
    · show Steps p.tables e below (s₁.setTop (mkF m 6 #[.val (.int p1), .val (.ref a2), .val (.int p1), .unset, .unset] [(.int p1), (.int (own_get r0 r1 r2 r3 p1))])) _
      refine XS.icmpYes X0.here hx rfl (pc0 := 6) (pc' := 16) rfl (hb hby d3_6) rfl (teq h3).1 (by decide) (by decide) ?_
      show Steps p.tables e below (s₁.setTop (mkF m 16 #[.val (.int p1), .val (.ref a2), .val (.int p1), .unset, .unset] [])) _
      refine XS.iloadN X0.here hx rfl (hb hby d3_16) rfl ?_
      show Steps p.tables e below (s₁.setTop (mkF m 17 #[.val (.int p1), .val (.ref a2), .val (.int p1), .unset, .unset] [(.int p1)])) _
      refine XS.istoreN X0.here hx rfl (hb hby d3_17) rfl (l' := #[.val (.int p1), .val (.ref a2), .val (.int p1), .val (.int p1), .unset]) rfl ?_
      show Steps p.tables e below (s₁.setTop (mkF m 18 #[.val (.int p1), .val (.ref a2), .val (.int p1), .val (.int p1), .unset] [])) _
      refine XS.aloadN X0.here hx rfl (hb hby d3_18) rfl rfl ?_
      show Steps p.tables e below (s₁.setTop (mkF m 19 #[.val (.int p1), .val (.ref a2), .val (.int p1), .val (.int p1), .unset] [(.ref a2)])) _
      refine XS.iloadN X0.here hx rfl (hb hby d3_19) rfl ?_
      show Steps p.tables e below (s₁.setTop (mkF m 20 #[.val (.int p1), .val (.ref a2), .val (.int p1), .val (.int p1), .unset] [(.int p1), (.ref a2)])) _
      refine X0.iaload hx (j := p1) (v := (.int (own_get r0 r1 r2 r3 p1))) (by rw [e0]; exact Ar4.1) (State.isArrayOf_alike hZ.alike Ar4.2.1) Ar4.2.2 hin4 hat4 (g := (mkF m 20 #[.val (.int p1), .val (.ref a2), .val (.int p1), .val (.int p1), .unset] [(.int p1), (.ref a2)])) rfl rfl (hb hby d3_20) _ ?_
      show Steps p.tables e below (s₁.setTop (mkF m 21 #[.val (.int p1), .val (.ref a2), .val (.int p1), .val (.int p1), .unset] [(.int (own_get r0 r1 r2 r3 p1))])) _
      refine XS.iloadN X0.here hx rfl (hb hby d3_21) rfl ?_
      show Steps p.tables e below (s₁.setTop (mkF m 22 #[.val (.int p1), .val (.ref a2), .val (.int p1), .val (.int p1), .unset] [(.int p1), (.int (own_get r0 r1 r2 r3 p1))])) _
      refine XS.icmpYes X0.here hx rfl (pc0 := 22) (pc' := 40) rfl (hb hby d3_22) rfl (teq h6).1 (by decide) (by decide) ?_
      show Steps p.tables e below (s₁.setTop (mkF m 40 #[.val (.int p1), .val (.ref a2), .val (.int p1), .val (.int p1), .unset] [])) _
      refine XS.iloadN X0.here hx rfl (hb hby d3_40) rfl ?_
      show Steps p.tables e below (s₁.setTop (mkF m 41 #[.val (.int p1), .val (.ref a2), .val (.int p1), .val (.int p1), .unset] [(.int p1)])) _
      exact retI X0 hx Bd.returns (hb hby d3_41) hr
    · show Q3 Z p1 a2 k1 r0 r1 r2 r3 h0 n0 _ s₁.heap _
      rw [e0]
      have hx1 : f3_x0 p1 r0 r1 r2 r3 = r0 := by simp only [f3_x0, if_pos h3]
      have hx2 : f3_x1 p1 r0 r1 r2 r3 = r1 := by simp only [f3_x1, if_pos h3]
      have hx3 : f3_x2 p1 r0 r1 r2 r3 = r2 := by simp only [f3_x2, if_pos h3]
      have hx4 : f3_x3 p1 r0 r1 r2 r3 = r3 := by simp only [f3_x3, if_pos h3]
      have hf : f3 p1 r0 r1 r2 r3 = p1 := by simp only [f3, if_pos h3]
      exact ⟨by rw [hf], N0, K0, (by rw [hx1, hx2, hx3, hx4]; exact A_a2)⟩
  · obtain ⟨cl7, Ar7, -, S7, M7, H7, -⟩ := id A_a2
    have hj8 : own_in4 p1 := (own_all (fun p1 r0 r1 r2 r3 => (¬ ((own_get r0 r1 r2 r3 p1) = p1)) → (own_get r0 r1 r2 r3 (own_get r0 r1 r2 r3 (own_get r0 r1 r2 r3 (own_get r0 r1 r2 r3 p1))) = own_get r0 r1 r2 r3 (own_get r0 r1 r2 r3 (own_get r0 r1 r2 r3 p1))) → own_in4 p1) (by decide +kernel) hs hr0 hr1 hr2 hr3 h3 hf)
    have hin7 := inb_of (j := p1) S7 (own_b4 hj8)
    have hat7 := H7.at hin7 (v := (.int (own_get r0 r1 r2 r3 p1))) (own_rd4 hj8)
    obtain ⟨cl9, Ar9, -, S9, M9, H9, -⟩ := id A_a2
    have hj10 : own_in4 (own_get r0 r1 r2 r3 p1) := (own_all (fun p1 r0 r1 r2 r3 => (¬ ((own_get r0 r1 r2 r3 p1) = p1)) → (own_get r0 r1 r2 r3 (own_get r0 r1 r2 r3 (own_get r0 r1 r2 r3 (own_get r0 r1 r2 r3 p1))) = own_get r0 r1 r2 r3 (own_get r0 r1 r2 r3 (own_get r0 r1 r2 r3 p1))) → own_in4 (own_get r0 r1 r2 r3 p1)) (by decide +kernel) hs hr0 hr1 hr2 hr3 h3 hf)
    have hin9 := inb_of (j := (own_get r0 r1 r2 r3 p1)) S9 (own_b4 hj10)
    have hat9 := H9.at hin9 (v := (.int (own_get r0 r1 r2 r3 (own_get r0 r1 r2 r3 p1)))) (own_rd4 hj10)
    refine own_step (B := s₁.setTop (mkF m 6 #[.val (.int p1), .val (.ref a2), .val (.int (own_get r0 r1 r2 r3 p1)), .unset, .unset] [(.int (own_get r0 r1 r2 r3 p1)), (.int (own_get r0 r1 r2 r3 (own_get r0 r1 r2 r3 p1)))])) (fun t k => ?_) ?_
    · show Steps p.tables e below (s₁.setTop (mkF m 6 #[.val (.int p1), .val (.ref a2), .val (.int p1), .unset, .unset] [(.int p1), (.int (own_get r0 r1 r2 r3 p1))])) _
      refine XS.icmpNo X0.here hx rfl (hb hby d3_6) rfl (feq h3).1 ?_
      show Steps p.tables e below (s₁.setTop (mkF m 9 #[.val (.int p1), .val (.ref a2), .val (.int p1), .unset, .unset] [])) _
      refine XS.aloadN X0.here hx rfl (hb hby d3_9) rfl rfl ?_
      show Steps p.tables e below (s₁.setTop (mkF m 10 #[.val (.int p1), .val (.ref a2), .val (.int p1), .unset, .unset] [(.ref a2)])) _
      refine XS.iloadN X0.here hx rfl (hb hby d3_10) rfl ?_
      show Steps p.tables e below (s₁.setTop (mkF m 11 #[.val (.int p1), .val (.ref a2), .val (.int p1), .unset, .unset] [(.int p1), (.ref a2)])) _
      refine X0.iaload hx (j := p1) (v := (.int (own_get r0 r1 r2 r3 p1))) (by rw [e0]; exact Ar7.1) (State.isArrayOf_alike hZ.alike Ar7.2.1) Ar7.2.2 hin7 hat7 (g := (mkF m 11 #[.val (.int p1), .val (.ref a2), .val (.int p1), .unset, .unset] [(.int p1), (.ref a2)])) rfl rfl (hb hby d3_11) _ ?_
      show Steps p.tables e below (s₁.setTop (mkF m 12 #[.val (.int p1), .val (.ref a2), .val (.int p1), .unset, .unset] [(.int (own_get r0 r1 r2 r3 p1))])) _
      refine XS.istoreN X0.here hx rfl (hb hby d3_12) rfl (l' := #[.val (.int p1), .val (.ref a2), .val (.int (own_get r0 r1 r2 r3 p1)), .unset, .unset]) rfl ?_
      show Steps p.tables e below (s₁.setTop (mkF m 13 #[.val (.int p1), .val (.ref a2), .val (.int (own_get r0 r1 r2 r3 p1)), .unset, .unset] [])) _
      refine XS.goto X0.here hx rfl (pc0 := 13) (pc' := 2) rfl (hb hby d3_13) (by decide) (by decide) ?_
      show Steps p.tables e below (s₁.setTop (mkF m 2 #[.val (.int p1), .val (.ref a2), .val (.int (own_get r0 r1 r2 r3 p1)), .unset, .unset] [])) _
      refine XS.aloadN X0.here hx rfl (hb hby d3_2) rfl rfl ?_
      show Steps p.tables e below (s₁.setTop (mkF m 3 #[.val (.int p1), .val (.ref a2), .val (.int (own_get r0 r1 r2 r3 p1)), .unset, .unset] [(.ref a2)])) _
      refine XS.iloadN X0.here hx rfl (hb hby d3_3) rfl ?_
      show Steps p.tables e below (s₁.setTop (mkF m 4 #[.val (.int p1), .val (.ref a2), .val (.int (own_get r0 r1 r2 r3 p1)), .unset, .unset] [(.int (own_get r0 r1 r2 r3 p1)), (.ref a2)])) _
      refine X0.iaload hx (j := (own_get r0 r1 r2 r3 p1)) (v := (.int (own_get r0 r1 r2 r3 (own_get r0 r1 r2 r3 p1)))) (by rw [e0]; exact Ar9.1) (State.isArrayOf_alike hZ.alike Ar9.2.1) Ar9.2.2 hin9 hat9 (g := (mkF m 4 #[.val (.int p1), .val (.ref a2), .val (.int (own_get r0 r1 r2 r3 p1)), .unset, .unset] [(.int (own_get r0 r1 r2 r3 p1)), (.ref a2)])) rfl rfl (hb hby d3_4) _ ?_
      show Steps p.tables e below (s₁.setTop (mkF m 5 #[.val (.int p1), .val (.ref a2), .val (.int (own_get r0 r1 r2 r3 p1)), .unset, .unset] [(.int (own_get r0 r1 r2 r3 (own_get r0 r1 r2 r3 p1)))])) _
      refine XS.iloadN X0.here hx rfl (hb hby d3_5) rfl ?_
      exact k
    by_cases h11 : (own_get r0 r1 r2 r3 (own_get r0 r1 r2 r3 p1)) = (own_get r0 r1 r2 r3 p1)
    · obtain ⟨cl12, Ar12, -, S12, M12, H12, -⟩ := id A_a2
      have hj13 : own_in4 p1 := (own_all (fun p1 r0 r1 r2 r3 => (¬ ((own_get r0 r1 r2 r3 p1) = p1)) → ((own_get r0 r1 r2 r3 (own_get r0 r1 r2 r3 p1)) = (own_get r0 r1 r2 r3 p1)) → (own_get r0 r1 r2 r3 (own_get r0 r1 r2 r3 (own_get r0 r1 r2 r3 (own_get r0 r1 r2 r3 p1))) = own_get r0 r1 r2 r3 (own_get r0 r1 r2 r3 (own_get r0 r1 r2 r3 p1))) → own_in4 p1) (by decide +kernel) hs hr0 hr1 hr2 hr3 h3 h11 hf)
      have hin12 := inb_of (j := p1) S12 (own_b4 hj13)
      have hat12 := H12.at hin12 (v := (.int (own_get r0 r1 r2 r3 p1))) (own_rd4 hj13)
      have h14 : (own_get r0 r1 r2 r3 p1) = (own_get r0 r1 r2 r3 p1) := (own_all (fun p1 r0 r1 r2 r3 => (¬ ((own_get r0 r1 r2 r3 p1) = p1)) → ((own_get r0 r1 r2 r3 (own_get r0 r1 r2 r3 p1)) = (own_get r0 r1 r2 r3 p1)) → (own_get r0 r1 r2 r3 (own_get r0 r1 r2 r3 (own_get r0 r1 r2 r3 (own_get r0 r1 r2 r3 p1))) = own_get r0 r1 r2 r3 (own_get r0 r1 r2 r3 (own_get r0 r1 r2 r3 p1))) → (own_get r0 r1 r2 r3 p1) = (own_get r0 r1 r2 r3 p1)) (by decide +kernel) hs hr0 hr1 hr2 hr3 h3 h11 hf)
      obtain ⟨fs, hr, hrun, hended, hW, hsame⟩ := X0.leave (v := some (.int (own_get r0 r1 r2 r3 p1))) (fun h => by rw [Bd.returns] at h; cases h)
      refine ⟨_, _, ?_, hrun, hended, _, _, rfl, ?_, ⟨_, rfl⟩, hW, hsame.mono (by decide) (by decide)⟩
      · show Steps p.tables e below (s₁.setTop (mkF m 6 #[.val (.int p1), .val (.ref a2), .val (.int (own_get r0 r1 r2 r3 p1)), .unset, .unset] [(.int (own_get r0 r1 r2 r3 p1)), (.int (own_get r0 r1 r2 r3 (own_get r0 r1 r2 r3 p1)))])) _
        refine XS.icmpYes X0.here hx rfl (pc0 := 6) (pc' := 16) rfl (hb hby d3_6) rfl (teq h11).1 (by decide) (by decide) ?_
        show Steps p.tables e below (s₁.setTop (mkF m 16 #[.val (.int p1), .val (.ref a2), .val (.int (own_get r0 r1 r2 r3 p1)), .unset, .unset] [])) _
        refine XS.iloadN X0.here hx rfl (hb hby d3_16) rfl ?_
        show Steps p.tables e below (s₁.setTop (mkF m 17 #[.val (.int p1), .val (.ref a2), .val (.int (own_get r0 r1 r2 r3 p1)), .unset, .unset] [(.int p1)])) _
        refine XS.istoreN X0.here hx rfl (hb hby d3_17) rfl (l' := #[.val (.int p1), .val (.ref a2), .val (.int (own_get r0 r1 r2 r3 p1)), .val (.int p1), .unset]) rfl ?_
        show Steps p.tables e below (s₁.setTop (mkF m 18 #[.val (.int p1), .val (.ref a2), .val (.int (own_get r0 r1 r2 r3 p1)), .val (.int p1), .unset] [])) _
        refine XS.aloadN X0.here hx rfl (hb hby d3_18) rfl rfl ?_
        show Steps p.tables e below (s₁.setTop (mkF m 19 #[.val (.int p1), .val (.ref a2), .val (.int (own_get r0 r1 r2 r3 p1)), .val (.int p1), .unset] [(.ref a2)])) _
        refine XS.iloadN X0.here hx rfl (hb hby d3_19) rfl ?_
        show Steps p.tables e below (s₁.setTop (mkF m 20 #[.val (.int p1), .val (.ref a2), .val (.int (own_get r0 r1 r2 r3 p1)), .val (.int p1), .unset] [(.int p1), (.ref a2)])) _
        refine X0.iaload hx (j := p1) (v := (.int (own_get r0 r1 r2 r3 p1))) (by rw [e0]; exact Ar12.1) (State.isArrayOf_alike hZ.alike Ar12.2.1) Ar12.2.2 hin12 hat12 (g := (mkF m 20 #[.val (.int p1), .val (.ref a2), .val (.int (own_get r0 r1 r2 r3 p1)), .val (.int p1), .unset] [(.int p1), (.ref a2)])) rfl rfl (hb hby d3_20) _ ?_
        show Steps p.tables e below (s₁.setTop (mkF m 21 #[.val (.int p1), .val (.ref a2), .val (.int (own_get r0 r1 r2 r3 p1)), .val (.int p1), .unset] [(.int (own_get r0 r1 r2 r3 p1))])) _
        refine XS.iloadN X0.here hx rfl (hb hby d3_21) rfl ?_
        show Steps p.tables e below (s₁.setTop (mkF m 22 #[.val (.int p1), .val (.ref a2), .val (.int (own_get r0 r1 r2 r3 p1)), .val (.int p1), .unset] [(.int (own_get r0 r1 r2 r3 p1)), (.int (own_get r0 r1 r2 r3 p1))])) _
        refine XS.icmpYes X0.here hx rfl (pc0 := 22) (pc' := 40) rfl (hb hby d3_22) rfl (teq h14).1 (by decide) (by decide) ?_
        show Steps p.tables e below (s₁.setTop (mkF m 40 #[.val (.int p1), .val (.ref a2), .val (.int (own_get r0 r1 r2 r3 p1)), .val (.int p1), .unset] [])) _
        refine XS.iloadN X0.here hx rfl (hb hby d3_40) rfl ?_
        show Steps p.tables e below (s₁.setTop (mkF m 41 #[.val (.int p1), .val (.ref a2), .val (.int (own_get r0 r1 r2 r3 p1)), .val (.int p1), .unset] [(.int (own_get r0 r1 r2 r3 p1))])) _
        exact retI X0 hx Bd.returns (hb hby d3_41) hr
      · show Q3 Z p1 a2 k1 r0 r1 r2 r3 h0 n0 _ s₁.heap _
        rw [e0]
        have hx1 : f3_x0 p1 r0 r1 r2 r3 = r0 := by simp only [f3_x0, if_neg h3, if_pos h11]
        have hx2 : f3_x1 p1 r0 r1 r2 r3 = r1 := by simp only [f3_x1, if_neg h3, if_pos h11]
        have hx3 : f3_x2 p1 r0 r1 r2 r3 = r2 := by simp only [f3_x2, if_neg h3, if_pos h11]
        have hx4 : f3_x3 p1 r0 r1 r2 r3 = r3 := by simp only [f3_x3, if_neg h3, if_pos h11]
        have hf : f3 p1 r0 r1 r2 r3 = (own_get r0 r1 r2 r3 p1) := by simp only [f3, if_neg h3, if_pos h11]
        exact ⟨by rw [hf], N0, K0, (by rw [hx1, hx2, hx3, hx4]; exact A_a2)⟩
    · obtain ⟨cl15, Ar15, -, S15, M15, H15, -⟩ := id A_a2
      have hj16 : own_in4 (own_get r0 r1 r2 r3 p1) := (own_all (fun p1 r0 r1 r2 r3 => (¬ ((own_get r0 r1 r2 r3 p1) = p1)) → (¬ ((own_get r0 r1 r2 r3 (own_get r0 r1 r2 r3 p1)) = (own_get r0 r1 r2 r3 p1))) → (own_get r0 r1 r2 r3 (own_get r0 r1 r2 r3 (own_get r0 r1 r2 r3 (own_get r0 r1 r2 r3 p1))) = own_get r0 r1 r2 r3 (own_get r0 r1 r2 r3 (own_get r0 r1 r2 r3 p1))) → own_in4 (own_get r0 r1 r2 r3 p1)) (by decide +kernel) hs hr0 hr1 hr2 hr3 h3 h11 hf)
      have hin15 := inb_of (j := (own_get r0 r1 r2 r3 p1)) S15 (own_b4 hj16)
      have hat15 := H15.at hin15 (v := (.int (own_get r0 r1 r2 r3 (own_get r0 r1 r2 r3 p1)))) (own_rd4 hj16)
      obtain ⟨cl17, Ar17, -, S17, M17, H17, -⟩ := id A_a2
      have hj18 : own_in4 (own_get r0 r1 r2 r3 (own_get r0 r1 r2 r3 p1)) := (own_all (fun p1 r0 r1 r2 r3 => (¬ ((own_get r0 r1 r2 r3 p1) = p1)) → (¬ ((own_get r0 r1 r2 r3 (own_get r0 r1 r2 r3 p1)) = (own_get r0 r1 r2 r3 p1))) → (own_get r0 r1 r2 r3 (own_get r0 r1 r2 r3 (own_get r0 r1 r2 r3 (own_get r0 r1 r2 r3 p1))) = own_get r0 r1 r2 r3 (own_get r0 r1 r2 r3 (own_get r0 r1 r2 r3 p1))) → own_in4 (own_get r0 r1 r2 r3 (own_get r0 r1 r2 r3 p1))) (by decide +kernel) hs hr0 hr1 hr2 hr3 h3 h11 hf)
      have hin17 := inb_of (j := (own_get r0 r1 r2 r3 (own_get r0 r1 r2 r3 p1))) S17 (own_b4 hj18)
      have hat17 := H17.at hin17 (v := (.int (f3_0 p1 r0 r1 r2 r3))) (own_rd4 hj18)
      refine own_step (B := s₁.setTop (mkF m 6 #[.val (.int p1), .val (.ref a2), .val (.int (own_get r0 r1 r2 r3 (own_get r0 r1 r2 r3 p1))), .unset, .unset] [(.int (own_get r0 r1 r2 r3 (own_get r0 r1 r2 r3 p1))), (.int (f3_0 p1 r0 r1 r2 r3))])) (fun t k => ?_) ?_
      · show Steps p.tables e below (s₁.setTop (mkF m 6 #[.val (.int p1), .val (.ref a2), .val (.int (own_get r0 r1 r2 r3 p1)), .unset, .unset] [(.int (own_get r0 r1 r2 r3 p1)), (.int (own_get r0 r1 r2 r3 (own_get r0 r1 r2 r3 p1)))])) _
        refine XS.icmpNo X0.here hx rfl (hb hby d3_6) rfl (feq h11).1 ?_
        show Steps p.tables e below (s₁.setTop (mkF m 9 #[.val (.int p1), .val (.ref a2), .val (.int (own_get r0 r1 r2 r3 p1)), .unset, .unset] [])) _
        refine XS.aloadN X0.here hx rfl (hb hby d3_9) rfl rfl ?_
        show Steps p.tables e below (s₁.setTop (mkF m 10 #[.val (.int p1), .val (.ref a2), .val (.int (own_get r0 r1 r2 r3 p1)), .unset, .unset] [(.ref a2)])) _
        refine XS.iloadN X0.here hx rfl (hb hby d3_10) rfl ?_
        show Steps p.tables e below (s₁.setTop (mkF m 11 #[.val (.int p1), .val (.ref a2), .val (.int (own_get r0 r1 r2 r3 p1)), .unset, .unset] [(.int (own_get r0 r1 r2 r3 p1)), (.ref a2)])) _
        refine X0.iaload hx (j := (own_get r0 r1 r2 r3 p1)) (v := (.int (own_get r0 r1 r2 r3 (own_get r0 r1 r2 r3 p1)))) (by rw [e0]; exact Ar15.1) (State.isArrayOf_alike hZ.alike Ar15.2.1) Ar15.2.2 hin15 hat15 (g := (mkF m 11 #[.val (.int p1), .val (.ref a2), .val (.int (own_get r0 r1 r2 r3 p1)), .unset, .unset] [(.int (own_get r0 r1 r2 r3 p1)), (.ref a2)])) rfl rfl (hb hby d3_11) _ ?_
        show Steps p.tables e below (s₁.setTop (mkF m 12 #[.val (.int p1), .val (.ref a2), .val (.int (own_get r0 r1 r2 r3 p1)), .unset, .unset] [(.int (own_get r0 r1 r2 r3 (own_get r0 r1 r2 r3 p1)))])) _
        refine XS.istoreN X0.here hx rfl (hb hby d3_12) rfl (l' := #[.val (.int p1), .val (.ref a2), .val (.int (own_get r0 r1 r2 r3 (own_get r0 r1 r2 r3 p1))), .unset, .unset]) rfl ?_
        show Steps p.tables e below (s₁.setTop (mkF m 13 #[.val (.int p1), .val (.ref a2), .val (.int (own_get r0 r1 r2 r3 (own_get r0 r1 r2 r3 p1))), .unset, .unset] [])) _
        refine XS.goto X0.here hx rfl (pc0 := 13) (pc' := 2) rfl (hb hby d3_13) (by decide) (by decide) ?_
        show Steps p.tables e below (s₁.setTop (mkF m 2 #[.val (.int p1), .val (.ref a2), .val (.int (own_get r0 r1 r2 r3 (own_get r0 r1 r2 r3 p1))), .unset, .unset] [])) _
        refine XS.aloadN X0.here hx rfl (hb hby d3_2) rfl rfl ?_
        show Steps p.tables e below (s₁.setTop (mkF m 3 #[.val (.int p1), .val (.ref a2), .val (.int (own_get r0 r1 r2 r3 (own_get r0 r1 r2 r3 p1))), .unset, .unset] [(.ref a2)])) _
        refine XS.iloadN X0.here hx rfl (hb hby d3_3) rfl ?_
        show Steps p.tables e below (s₁.setTop (mkF m 4 #[.val (.int p1), .val (.ref a2), .val (.int (own_get r0 r1 r2 r3 (own_get r0 r1 r2 r3 p1))), .unset, .unset] [(.int (own_get r0 r1 r2 r3 (own_get r0 r1 r2 r3 p1))), (.ref a2)])) _
        refine X0.iaload hx (j := (own_get r0 r1 r2 r3 (own_get r0 r1 r2 r3 p1))) (v := (.int (f3_0 p1 r0 r1 r2 r3))) (by rw [e0]; exact Ar17.1) (State.isArrayOf_alike hZ.alike Ar17.2.1) Ar17.2.2 hin17 hat17 (g := (mkF m 4 #[.val (.int p1), .val (.ref a2), .val (.int (own_get r0 r1 r2 r3 (own_get r0 r1 r2 r3 p1))), .unset, .unset] [(.int (own_get r0 r1 r2 r3 (own_get r0 r1 r2 r3 p1))), (.ref a2)])) rfl rfl (hb hby d3_4) _ ?_
        show Steps p.tables e below (s₁.setTop (mkF m 5 #[.val (.int p1), .val (.ref a2), .val (.int (own_get r0 r1 r2 r3 (own_get r0 r1 r2 r3 p1))), .unset, .unset] [(.int (f3_0 p1 r0 r1 r2 r3))])) _
        refine XS.iloadN X0.here hx rfl (hb hby d3_5) rfl ?_
        exact k
      by_cases h19 : (f3_0 p1 r0 r1 r2 r3) = (own_get r0 r1 r2 r3 (own_get r0 r1 r2 r3 p1))
      · obtain ⟨cl20, Ar20, -, S20, M20, H20, -⟩ := id A_a2
        have hj21 : own_in4 p1 := (own_all (fun p1 r0 r1 r2 r3 => (¬ ((own_get r0 r1 r2 r3 p1) = p1)) → (¬ ((own_get r0 r1 r2 r3 (own_get r0 r1 r2 r3 p1)) = (own_get r0 r1 r2 r3 p1))) → ((f3_0 p1 r0 r1 r2 r3) = (own_get r0 r1 r2 r3 (own_get r0 r1 r2 r3 p1))) → (own_get r0 r1 r2 r3 (own_get r0 r1 r2 r3 (own_get r0 r1 r2 r3 (own_get r0 r1 r2 r3 p1))) = own_get r0 r1 r2 r3 (own_get r0 r1 r2 r3 (own_get r0 r1 r2 r3 p1))) → own_in4 p1) (by decide +kernel) hs hr0 hr1 hr2 hr3 h3 h11 h19 hf)
        have hin20 := inb_of (j := p1) S20 (own_b4 hj21)
        have hat20 := H20.at hin20 (v := (.int (own_get r0 r1 r2 r3 p1))) (own_rd4 hj21)
        have h22 : ¬ ((own_get r0 r1 r2 r3 p1) = (own_get r0 r1 r2 r3 (own_get r0 r1 r2 r3 p1))) := (own_all (fun p1 r0 r1 r2 r3 => (¬ ((own_get r0 r1 r2 r3 p1) = p1)) → (¬ ((own_get r0 r1 r2 r3 (own_get r0 r1 r2 r3 p1)) = (own_get r0 r1 r2 r3 p1))) → ((f3_0 p1 r0 r1 r2 r3) = (own_get r0 r1 r2 r3 (own_get r0 r1 r2 r3 p1))) → (own_get r0 r1 r2 r3 (own_get r0 r1 r2 r3 (own_get r0 r1 r2 r3 (own_get r0 r1 r2 r3 p1))) = own_get r0 r1 r2 r3 (own_get r0 r1 r2 r3 (own_get r0 r1 r2 r3 p1))) → ¬ ((own_get r0 r1 r2 r3 p1) = (own_get r0 r1 r2 r3 (own_get r0 r1 r2 r3 p1)))) (by decide +kernel) hs hr0 hr1 hr2 hr3 h3 h11 h19 hf)
        obtain ⟨cl23, Ar23, -, S23, M23, H23, -⟩ := id A_a2
        have hj24 : own_in4 p1 := (own_all (fun p1 r0 r1 r2 r3 => (¬ ((own_get r0 r1 r2 r3 p1) = p1)) → (¬ ((own_get r0 r1 r2 r3 (own_get r0 r1 r2 r3 p1)) = (own_get r0 r1 r2 r3 p1))) → ((f3_0 p1 r0 r1 r2 r3) = (own_get r0 r1 r2 r3 (own_get r0 r1 r2 r3 p1))) → (own_get r0 r1 r2 r3 (own_get r0 r1 r2 r3 (own_get r0 r1 r2 r3 (own_get r0 r1 r2 r3 p1))) = own_get r0 r1 r2 r3 (own_get r0 r1 r2 r3 (own_get r0 r1 r2 r3 p1))) → own_in4 p1) (by decide +kernel) hs hr0 hr1 hr2 hr3 h3 h11 h19 hf)
        have hin23 := inb_of (j := p1) S23 (own_b4 hj24)
        have hat23 := H23.at hin23 (v := (.int (own_get r0 r1 r2 r3 p1))) (own_rd4 hj24)
        obtain ⟨cl25, Ar25, q25, S25, M25, H25, G25⟩ := id A_a2
        have hj26 : own_in4 p1 := (own_all (fun p1 r0 r1 r2 r3 => (¬ ((own_get r0 r1 r2 r3 p1) = p1)) → (¬ ((own_get r0 r1 r2 r3 (own_get r0 r1 r2 r3 p1)) = (own_get r0 r1 r2 r3 p1))) → ((f3_0 p1 r0 r1 r2 r3) = (own_get r0 r1 r2 r3 (own_get r0 r1 r2 r3 p1))) → (own_get r0 r1 r2 r3 (own_get r0 r1 r2 r3 (own_get r0 r1 r2 r3 (own_get r0 r1 r2 r3 p1))) = own_get r0 r1 r2 r3 (own_get r0 r1 r2 r3 (own_get r0 r1 r2 r3 p1))) → own_in4 p1) (by decide +kernel) hs hr0 hr1 hr2 hr3 h3 h11 h19 hf)
        obtain ⟨T25, h25, X25, e25, W25, st25⟩ := stI X0 hx hZ e0 Ar25 (j := p1) (inb_of S25 (own_b4 hj26)) (g := (mkF m 33 #[.val (.int p1), .val (.ref a2), .val (.int (own_get r0 r1 r2 r3 (own_get r0 r1 r2 r3 p1))), .val (.int p1), .val (.int (own_get r0 r1 r2 r3 p1))] [(.int (own_get r0 r1 r2 r3 (own_get r0 r1 r2 r3 p1))), (.int p1), (.ref a2)])) rfl rfl (hb hby d3_33)
        have K25 := K0.wr W25 (Or.inl (List.mem_of_getElem? (i := 0) rfl))
        have Z25 : n0 ≤ h25.size := Nat.le_trans Z0 (Keep.of_wr W25).1
        have N25 := Fr.snoc X25 N0 G_a2
        have V25w := Arv.set Ar25 q25 S25 M25 H25 G25 rfl W25 _ rfl (own_n4 hj26)
        rw [own_set4 hj26] at V25w
        have V25 : Arv Z h25 a2 k1 .int (4 : Int32) [(.int (f3_1 p1 r0 r1 r2 r3)), (.int (f3_2 p1 r0 r1 r2 r3)), (.int (f3_3 p1 r0 r1 r2 r3)), (.int (f3_4 p1 r0 r1 r2 r3))] (.int (0 : Int32)) := V25w
        obtain ⟨cl27, Ar27, -, S27, M27, H27, -⟩ := id V25
        have hj28 : own_in4 (own_get r0 r1 r2 r3 p1) := (own_all (fun p1 r0 r1 r2 r3 => (¬ ((own_get r0 r1 r2 r3 p1) = p1)) → (¬ ((own_get r0 r1 r2 r3 (own_get r0 r1 r2 r3 p1)) = (own_get r0 r1 r2 r3 p1))) → ((f3_0 p1 r0 r1 r2 r3) = (own_get r0 r1 r2 r3 (own_get r0 r1 r2 r3 p1))) → (own_get r0 r1 r2 r3 (own_get r0 r1 r2 r3 (own_get r0 r1 r2 r3 (own_get r0 r1 r2 r3 p1))) = own_get r0 r1 r2 r3 (own_get r0 r1 r2 r3 (own_get r0 r1 r2 r3 p1))) → own_in4 (own_get r0 r1 r2 r3 p1)) (by decide +kernel) hs hr0 hr1 hr2 hr3 h3 h11 h19 hf)
        have hin27 := inb_of (j := (own_get r0 r1 r2 r3 p1)) S27 (own_b4 hj28)
        have hat27 := H27.at hin27 (v := (.int (f3_5 p1 r0 r1 r2 r3))) (own_rd4 hj28)
        have h29 : (f3_5 p1 r0 r1 r2 r3) = (own_get r0 r1 r2 r3 (own_get r0 r1 r2 r3 p1)) := (own_all (fun p1 r0 r1 r2 r3 => (¬ ((own_get r0 r1 r2 r3 p1) = p1)) → (¬ ((own_get r0 r1 r2 r3 (own_get r0 r1 r2 r3 p1)) = (own_get r0 r1 r2 r3 p1))) → ((f3_0 p1 r0 r1 r2 r3) = (own_get r0 r1 r2 r3 (own_get r0 r1 r2 r3 p1))) → (own_get r0 r1 r2 r3 (own_get r0 r1 r2 r3 (own_get r0 r1 r2 r3 (own_get r0 r1 r2 r3 p1))) = own_get r0 r1 r2 r3 (own_get r0 r1 r2 r3 (own_get r0 r1 r2 r3 p1))) → (f3_5 p1 r0 r1 r2 r3) = (own_get r0 r1 r2 r3 (own_get r0 r1 r2 r3 p1))) (by decide +kernel) hs hr0 hr1 hr2 hr3 h3 h11 h19 hf)
        obtain ⟨fs, hr, hrun, hended, hW, hsame⟩ := X25.leave (v := some (.int (own_get r0 r1 r2 r3 (own_get r0 r1 r2 r3 p1)))) (fun h => by rw [Bd.returns] at h; cases h)
        refine ⟨_, _, ?_, hrun, hended, _, _, rfl, ?_, ⟨_, rfl⟩, hW, hsame.mono (by decide) (by decide)⟩
        · show Steps p.tables e below (s₁.setTop (mkF m 6 #[.val (.int p1), .val (.ref a2), .val (.int (own_get r0 r1 r2 r3 (own_get r0 r1 r2 r3 p1))), .unset, .unset] [(.int (own_get r0 r1 r2 r3 (own_get r0 r1 r2 r3 p1))), (.int (f3_0 p1 r0 r1 r2 r3))])) _
          refine XS.icmpYes X0.here hx rfl (pc0 := 6) (pc' := 16) rfl (hb hby d3_6) rfl (teq h19).1 (by decide) (by decide) ?_
          show Steps p.tables e below (s₁.setTop (mkF m 16 #[.val (.int p1), .val (.ref a2), .val (.int (own_get r0 r1 r2 r3 (own_get r0 r1 r2 r3 p1))), .unset, .unset] [])) _
          refine XS.iloadN X0.here hx rfl (hb hby d3_16) rfl ?_
          show Steps p.tables e below (s₁.setTop (mkF m 17 #[.val (.int p1), .val (.ref a2), .val (.int (own_get r0 r1 r2 r3 (own_get r0 r1 r2 r3 p1))), .unset, .unset] [(.int p1)])) _
          refine XS.istoreN X0.here hx rfl (hb hby d3_17) rfl (l' := #[.val (.int p1), .val (.ref a2), .val (.int (own_get r0 r1 r2 r3 (own_get r0 r1 r2 r3 p1))), .val (.int p1), .unset]) rfl ?_
          show Steps p.tables e below (s₁.setTop (mkF m 18 #[.val (.int p1), .val (.ref a2), .val (.int (own_get r0 r1 r2 r3 (own_get r0 r1 r2 r3 p1))), .val (.int p1), .unset] [])) _
          refine XS.aloadN X0.here hx rfl (hb hby d3_18) rfl rfl ?_
          show Steps p.tables e below (s₁.setTop (mkF m 19 #[.val (.int p1), .val (.ref a2), .val (.int (own_get r0 r1 r2 r3 (own_get r0 r1 r2 r3 p1))), .val (.int p1), .unset] [(.ref a2)])) _
          refine XS.iloadN X0.here hx rfl (hb hby d3_19) rfl ?_
          show Steps p.tables e below (s₁.setTop (mkF m 20 #[.val (.int p1), .val (.ref a2), .val (.int (own_get r0 r1 r2 r3 (own_get r0 r1 r2 r3 p1))), .val (.int p1), .unset] [(.int p1), (.ref a2)])) _
          refine X0.iaload hx (j := p1) (v := (.int (own_get r0 r1 r2 r3 p1))) (by rw [e0]; exact Ar20.1) (State.isArrayOf_alike hZ.alike Ar20.2.1) Ar20.2.2 hin20 hat20 (g := (mkF m 20 #[.val (.int p1), .val (.ref a2), .val (.int (own_get r0 r1 r2 r3 (own_get r0 r1 r2 r3 p1))), .val (.int p1), .unset] [(.int p1), (.ref a2)])) rfl rfl (hb hby d3_20) _ ?_
          show Steps p.tables e below (s₁.setTop (mkF m 21 #[.val (.int p1), .val (.ref a2), .val (.int (own_get r0 r1 r2 r3 (own_get r0 r1 r2 r3 p1))), .val (.int p1), .unset] [(.int (own_get r0 r1 r2 r3 p1))])) _
          refine XS.iloadN X0.here hx rfl (hb hby d3_21) rfl ?_
          show Steps p.tables e below (s₁.setTop (mkF m 22 #[.val (.int p1), .val (.ref a2), .val (.int (own_get r0 r1 r2 r3 (own_get r0 r1 r2 r3 p1))), .val (.int p1), .unset] [(.int (own_get r0 r1 r2 r3 (own_get r0 r1 r2 r3 p1))), (.int (own_get r0 r1 r2 r3 p1))])) _
          refine XS.icmpNo X0.here hx rfl (hb hby d3_22) rfl (feq h22).1 ?_
          show Steps p.tables e below (s₁.setTop (mkF m 25 #[.val (.int p1), .val (.ref a2), .val (.int (own_get r0 r1 r2 r3 (own_get r0 r1 r2 r3 p1))), .val (.int p1), .unset] [])) _
          refine XS.aloadN X0.here hx rfl (hb hby d3_25) rfl rfl ?_
          show Steps p.tables e below (s₁.setTop (mkF m 26 #[.val (.int p1), .val (.ref a2), .val (.int (own_get r0 r1 r2 r3 (own_get r0 r1 r2 r3 p1))), .val (.int p1), .unset] [(.ref a2)])) _
          refine XS.iloadN X0.here hx rfl (hb hby d3_26) rfl ?_
          show Steps p.tables e below (s₁.setTop (mkF m 27 #[.val (.int p1), .val (.ref a2), .val (.int (own_get r0 r1 r2 r3 (own_get r0 r1 r2 r3 p1))), .val (.int p1), .unset] [(.int p1), (.ref a2)])) _
          refine X0.iaload hx (j := p1) (v := (.int (own_get r0 r1 r2 r3 p1))) (by rw [e0]; exact Ar23.1) (State.isArrayOf_alike hZ.alike Ar23.2.1) Ar23.2.2 hin23 hat23 (g := (mkF m 27 #[.val (.int p1), .val (.ref a2), .val (.int (own_get r0 r1 r2 r3 (own_get r0 r1 r2 r3 p1))), .val (.int p1), .unset] [(.int p1), (.ref a2)])) rfl rfl (hb hby d3_27) _ ?_
          show Steps p.tables e below (s₁.setTop (mkF m 28 #[.val (.int p1), .val (.ref a2), .val (.int (own_get r0 r1 r2 r3 (own_get r0 r1 r2 r3 p1))), .val (.int p1), .unset] [(.int (own_get r0 r1 r2 r3 p1))])) _
          refine XS.istore X0.here hx rfl (hb hby d3_28) rfl (l' := #[.val (.int p1), .val (.ref a2), .val (.int (own_get r0 r1 r2 r3 (own_get r0 r1 r2 r3 p1))), .val (.int p1), .val (.int (own_get r0 r1 r2 r3 p1))]) rfl ?_
          show Steps p.tables e below (s₁.setTop (mkF m 30 #[.val (.int p1), .val (.ref a2), .val (.int (own_get r0 r1 r2 r3 (own_get r0 r1 r2 r3 p1))), .val (.int p1), .val (.int (own_get r0 r1 r2 r3 p1))] [])) _
          refine XS.aloadN X0.here hx rfl (hb hby d3_30) rfl rfl ?_
          show Steps p.tables e below (s₁.setTop (mkF m 31 #[.val (.int p1), .val (.ref a2), .val (.int (own_get r0 r1 r2 r3 (own_get r0 r1 r2 r3 p1))), .val (.int p1), .val (.int (own_get r0 r1 r2 r3 p1))] [(.ref a2)])) _
          refine XS.iloadN X0.here hx rfl (hb hby d3_31) rfl ?_
          show Steps p.tables e below (s₁.setTop (mkF m 32 #[.val (.int p1), .val (.ref a2), .val (.int (own_get r0 r1 r2 r3 (own_get r0 r1 r2 r3 p1))), .val (.int p1), .val (.int (own_get r0 r1 r2 r3 p1))] [(.int p1), (.ref a2)])) _
          refine XS.iloadN X0.here hx rfl (hb hby d3_32) rfl ?_
          show Steps p.tables e below (s₁.setTop (mkF m 33 #[.val (.int p1), .val (.ref a2), .val (.int (own_get r0 r1 r2 r3 (own_get r0 r1 r2 r3 p1))), .val (.int p1), .val (.int (own_get r0 r1 r2 r3 p1))] [(.int (own_get r0 r1 r2 r3 (own_get r0 r1 r2 r3 p1))), (.int p1), (.ref a2)])) _
          refine st25 _ ?_
          show Steps p.tables e below (T25.setTop (mkF m 34 #[.val (.int p1), .val (.ref a2), .val (.int (own_get r0 r1 r2 r3 (own_get r0 r1 r2 r3 p1))), .val (.int p1), .val (.int (own_get r0 r1 r2 r3 p1))] [])) _
          refine XS.iload X25.here hx rfl (hb hby d3_34) rfl ?_
          show Steps p.tables e below (T25.setTop (mkF m 36 #[.val (.int p1), .val (.ref a2), .val (.int (own_get r0 r1 r2 r3 (own_get r0 r1 r2 r3 p1))), .val (.int p1), .val (.int (own_get r0 r1 r2 r3 p1))] [(.int (own_get r0 r1 r2 r3 p1))])) _
          refine XS.istoreN X25.here hx rfl (hb hby d3_36) rfl (l' := #[.val (.int p1), .val (.ref a2), .val (.int (own_get r0 r1 r2 r3 (own_get r0 r1 r2 r3 p1))), .val (.int (own_get r0 r1 r2 r3 p1)), .val (.int (own_get r0 r1 r2 r3 p1))]) rfl ?_
          show Steps p.tables e below (T25.setTop (mkF m 37 #[.val (.int p1), .val (.ref a2), .val (.int (own_get r0 r1 r2 r3 (own_get r0 r1 r2 r3 p1))), .val (.int (own_get r0 r1 r2 r3 p1)), .val (.int (own_get r0 r1 r2 r3 p1))] [])) _
          refine XS.goto X25.here hx rfl (pc0 := 37) (pc' := 18) rfl (hb hby d3_37) (by decide) (by decide) ?_
          show Steps p.tables e below (T25.setTop (mkF m 18 #[.val (.int p1), .val (.ref a2), .val (.int (own_get r0 r1 r2 r3 (own_get r0 r1 r2 r3 p1))), .val (.int (own_get r0 r1 r2 r3 p1)), .val (.int (own_get r0 r1 r2 r3 p1))] [])) _
          refine XS.aloadN X25.here hx rfl (hb hby d3_18) rfl rfl ?_
          show Steps p.tables e below (T25.setTop (mkF m 19 #[.val (.int p1), .val (.ref a2), .val (.int (own_get r0 r1 r2 r3 (own_get r0 r1 r2 r3 p1))), .val (.int (own_get r0 r1 r2 r3 p1)), .val (.int (own_get r0 r1 r2 r3 p1))] [(.ref a2)])) _
          refine XS.iloadN X25.here hx rfl (hb hby d3_19) rfl ?_
          show Steps p.tables e below (T25.setTop (mkF m 20 #[.val (.int p1), .val (.ref a2), .val (.int (own_get r0 r1 r2 r3 (own_get r0 r1 r2 r3 p1))), .val (.int (own_get r0 r1 r2 r3 p1)), .val (.int (own_get r0 r1 r2 r3 p1))] [(.int (own_get r0 r1 r2 r3 p1)), (.ref a2)])) _
          refine X25.iaload hx (j := (own_get r0 r1 r2 r3 p1)) (v := (.int (f3_5 p1 r0 r1 r2 r3))) (by rw [e25]; exact Ar27.1) (State.isArrayOf_alike hZ.alike Ar27.2.1) Ar27.2.2 hin27 hat27 (g := (mkF m 20 #[.val (.int p1), .val (.ref a2), .val (.int (own_get r0 r1 r2 r3 (own_get r0 r1 r2 r3 p1))), .val (.int (own_get r0 r1 r2 r3 p1)), .val (.int (own_get r0 r1 r2 r3 p1))] [(.int (own_get r0 r1 r2 r3 p1)), (.ref a2)])) rfl rfl (hb hby d3_20) _ ?_
          show Steps p.tables e below (T25.setTop (mkF m 21 #[.val (.int p1), .val (.ref a2), .val (.int (own_get r0 r1 r2 r3 (own_get r0 r1 r2 r3 p1))), .val (.int (own_get r0 r1 r2 r3 p1)), .val (.int (own_get r0 r1 r2 r3 p1))] [(.int (f3_5 p1 r0 r1 r2 r3))])) _
          refine XS.iloadN X25.here hx rfl (hb hby d3_21) rfl ?_
          show Steps p.tables e below (T25.setTop (mkF m 22 #[.val (.int p1), .val (.ref a2), .val (.int (own_get r0 r1 r2 r3 (own_get r0 r1 r2 r3 p1))), .val (.int (own_get r0 r1 r2 r3 p1)), .val (.int (own_get r0 r1 r2 r3 p1))] [(.int (own_get r0 r1 r2 r3 (own_get r0 r1 r2 r3 p1))), (.int (f3_5 p1 r0 r1 r2 r3))])) _
          refine XS.icmpYes X25.here hx rfl (pc0 := 22) (pc' := 40) rfl (hb hby d3_22) rfl (teq h29).1 (by decide) (by decide) ?_
          show Steps p.tables e below (T25.setTop (mkF m 40 #[.val (.int p1), .val (.ref a2), .val (.int (own_get r0 r1 r2 r3 (own_get r0 r1 r2 r3 p1))), .val (.int (own_get r0 r1 r2 r3 p1)), .val (.int (own_get r0 r1 r2 r3 p1))] [])) _
          refine XS.iloadN X25.here hx rfl (hb hby d3_40) rfl ?_
          show Steps p.tables e below (T25.setTop (mkF m 41 #[.val (.int p1), .val (.ref a2), .val (.int (own_get r0 r1 r2 r3 (own_get r0 r1 r2 r3 p1))), .val (.int (own_get r0 r1 r2 r3 p1)), .val (.int (own_get r0 r1 r2 r3 p1))] [(.int (own_get r0 r1 r2 r3 (own_get r0 r1 r2 r3 p1)))])) _
          exact retI X25 hx Bd.returns (hb hby d3_41) hr
        · show Q3 Z p1 a2 k1 r0 r1 r2 r3 h0 n0 _ T25.heap _
          rw [e25]
          have hx1 : f3_x0 p1 r0 r1 r2 r3 = (f3_1 p1 r0 r1 r2 r3) := by simp only [f3_x0, if_neg h3, if_neg h11, if_pos h19]
          have hx2 : f3_x1 p1 r0 r1 r2 r3 = (f3_2 p1 r0 r1 r2 r3) := by simp only [f3_x1, if_neg h3, if_neg h11, if_pos h19]
          have hx3 : f3_x2 p1 r0 r1 r2 r3 = (f3_3 p1 r0 r1 r2 r3) := by simp only [f3_x2, if_neg h3, if_neg h11, if_pos h19]
          have hx4 : f3_x3 p1 r0 r1 r2 r3 = (f3_4 p1 r0 r1 r2 r3) := by simp only [f3_x3, if_neg h3, if_neg h11, if_pos h19]
          have hf : f3 p1 r0 r1 r2 r3 = (own_get r0 r1 r2 r3 (own_get r0 r1 r2 r3 p1)) := by simp only [f3, if_neg h3, if_neg h11, if_pos h19]
          exact ⟨by rw [hf], N25, K25, (by rw [hx1, hx2, hx3, hx4]; exact V25)⟩
      · obtain ⟨cl30, Ar30, -, S30, M30, H30, -⟩ := id A_a2
        have hj31 : own_in4 (own_get r0 r1 r2 r3 (own_get r0 r1 r2 r3 p1)) := (own_all (fun p1 r0 r1 r2 r3 => (¬ ((own_get r0 r1 r2 r3 p1) = p1)) → (¬ ((own_get r0 r1 r2 r3 (own_get r0 r1 r2 r3 p1)) = (own_get r0 r1 r2 r3 p1))) → (¬ ((f3_0 p1 r0 r1 r2 r3) = (own_get r0 r1 r2 r3 (own_get r0 r1 r2 r3 p1)))) → (own_get r0 r1 r2 r3 (own_get r0 r1 r2 r3 (own_get r0 r1 r2 r3 (own_get r0 r1 r2 r3 p1))) = own_get r0 r1 r2 r3 (own_get r0 r1 r2 r3 (own_get r0 r1 r2 r3 p1))) → own_in4 (own_get r0 r1 r2 r3 (own_get r0 r1 r2 r3 p1))) (by decide +kernel) hs hr0 hr1 hr2 hr3 h3 h11 h19 hf)
        have hin30 := inb_of (j := (own_get r0 r1 r2 r3 (own_get r0 r1 r2 r3 p1))) S30 (own_b4 hj31)
        have hat30 := H30.at hin30 (v := (.int (f3_0 p1 r0 r1 r2 r3))) (own_rd4 hj31)
        obtain ⟨cl32, Ar32, -, S32, M32, H32, -⟩ := id A_a2
        have hj33 : own_in4 (f3_0 p1 r0 r1 r2 r3) := (own_all (fun p1 r0 r1 r2 r3 => (¬ ((own_get r0 r1 r2 r3 p1) = p1)) → (¬ ((own_get r0 r1 r2 r3 (own_get r0 r1 r2 r3 p1)) = (own_get r0 r1 r2 r3 p1))) → (¬ ((f3_0 p1 r0 r1 r2 r3) = (own_get r0 r1 r2 r3 (own_get r0 r1 r2 r3 p1)))) → (own_get r0 r1 r2 r3 (own_get r0 r1 r2 r3 (own_get r0 r1 r2 r3 (own_get r0 r1 r2 r3 p1))) = own_get r0 r1 r2 r3 (own_get r0 r1 r2 r3 (own_get r0 r1 r2 r3 p1))) → own_in4 (f3_0 p1 r0 r1 r2 r3)) (by decide +kernel) hs hr0 hr1 hr2 hr3 h3 h11 h19 hf)
        have hin32 := inb_of (j := (f3_0 p1 r0 r1 r2 r3)) S32 (own_b4 hj33)
        have hat32 := H32.at hin32 (v := (.int (own_get r0 r1 r2 r3 (f3_0 p1 r0 r1 r2 r3)))) (own_rd4 hj33)
        have h34 : (own_get r0 r1 r2 r3 (f3_0 p1 r0 r1 r2 r3)) = (f3_0 p1 r0 r1 r2 r3) := (own_all (fun p1 r0 r1 r2 r3 => (¬ ((own_get r0 r1 r2 r3 p1) = p1)) → (¬ ((own_get r0 r1 r2 r3 (own_get r0 r1 r2 r3 p1)) = (own_get r0 r1 r2 r3 p1))) → (¬ ((f3_0 p1 r0 r1 r2 r3) = (own_get r0 r1 r2 r3 (own_get r0 r1 r2 r3 p1)))) → (own_get r0 r1 r2 r3 (own_get r0 r1 r2 r3 (own_get r0 r1 r2 r3 (own_get r0 r1 r2 r3 p1))) = own_get r0 r1 r2 r3 (own_get r0 r1 r2 r3 (own_get r0 r1 r2 r3 p1))) → (own_get r0 r1 r2 r3 (f3_0 p1 r0 r1 r2 r3)) = (f3_0 p1 r0 r1 r2 r3)) (by decide +kernel) hs hr0 hr1 hr2 hr3 h3 h11 h19 hf)
        obtain ⟨cl35, Ar35, -, S35, M35, H35, -⟩ := id A_a2
        have hj36 : own_in4 p1 := (own_all (fun p1 r0 r1 r2 r3 => (¬ ((own_get r0 r1 r2 r3 p1) = p1)) → (¬ ((own_get r0 r1 r2 r3 (own_get r0 r1 r2 r3 p1)) = (own_get r0 r1 r2 r3 p1))) → (¬ ((f3_0 p1 r0 r1 r2 r3) = (own_get r0 r1 r2 r3 (own_get r0 r1 r2 r3 p1)))) → (own_get r0 r1 r2 r3 (own_get r0 r1 r2 r3 (own_get r0 r1 r2 r3 (own_get r0 r1 r2 r3 p1))) = own_get r0 r1 r2 r3 (own_get r0 r1 r2 r3 (own_get r0 r1 r2 r3 p1))) → own_in4 p1) (by decide +kernel) hs hr0 hr1 hr2 hr3 h3 h11 h19 hf)
        have hin35 := inb_of (j := p1) S35 (own_b4 hj36)
        have hat35 := H35.at hin35 (v := (.int (own_get r0 r1 r2 r3 p1))) (own_rd4 hj36)
        have h37 : ¬ ((own_get r0 r1 r2 r3 p1) = (f3_0 p1 r0 r1 r2 r3)) := (own_all (fun p1 r0 r1 r2 r3 => (¬ ((own_get r0 r1 r2 r3 p1) = p1)) → (¬ ((own_get r0 r1 r2 r3 (own_get r0 r1 r2 r3 p1)) = (own_get r0 r1 r2 r3 p1))) → (¬ ((f3_0 p1 r0 r1 r2 r3) = (own_get r0 r1 r2 r3 (own_get r0 r1 r2 r3 p1)))) → (own_get r0 r1 r2 r3 (own_get r0 r1 r2 r3 (own_get r0 r1 r2 r3 (own_get r0 r1 r2 r3 p1))) = own_get r0 r1 r2 r3 (own_get r0 r1 r2 r3 (own_get r0 r1 r2 r3 p1))) → ¬ ((own_get r0 r1 r2 r3 p1) = (f3_0 p1 r0 r1 r2 r3))) (by decide +kernel) hs hr0 hr1 hr2 hr3 h3 h11 h19 hf)
        obtain ⟨cl38, Ar38, -, S38, M38, H38, -⟩ := id A_a2
        have hj39 : own_in4 p1 := (own_all (fun p1 r0 r1 r2 r3 => (¬ ((own_get r0 r1 r2 r3 p1) = p1)) → (¬ ((own_get r0 r1 r2 r3 (own_get r0 r1 r2 r3 p1)) = (own_get r0 r1 r2 r3 p1))) → (¬ ((f3_0 p1 r0 r1 r2 r3) = (own_get r0 r1 r2 r3 (own_get r0 r1 r2 r3 p1)))) → (own_get r0 r1 r2 r3 (own_get r0 r1 r2 r3 (own_get r0 r1 r2 r3 (own_get r0 r1 r2 r3 p1))) = own_get r0 r1 r2 r3 (own_get r0 r1 r2 r3 (own_get r0 r1 r2 r3 p1))) → own_in4 p1) (by decide +kernel) hs hr0 hr1 hr2 hr3 h3 h11 h19 hf)
        have hin38 := inb_of (j := p1) S38 (own_b4 hj39)
        have hat38 := H38.at hin38 (v := (.int (own_get r0 r1 r2 r3 p1))) (own_rd4 hj39)
        obtain ⟨cl40, Ar40, q40, S40, M40, H40, G40⟩ := id A_a2
        have hj41 : own_in4 p1 := (own_all (fun p1 r0 r1 r2 r3 => (¬ ((own_get r0 r1 r2 r3 p1) = p1)) → (¬ ((own_get r0 r1 r2 r3 (own_get r0 r1 r2 r3 p1)) = (own_get r0 r1 r2 r3 p1))) → (¬ ((f3_0 p1 r0 r1 r2 r3) = (own_get r0 r1 r2 r3 (own_get r0 r1 r2 r3 p1)))) → (own_get r0 r1 r2 r3 (own_get r0 r1 r2 r3 (own_get r0 r1 r2 r3 (own_get r0 r1 r2 r3 p1))) = own_get r0 r1 r2 r3 (own_get r0 r1 r2 r3 (own_get r0 r1 r2 r3 p1))) → own_in4 p1) (by decide +kernel) hs hr0 hr1 hr2 hr3 h3 h11 h19 hf)
        obtain ⟨T40, h40, X40, e40, W40, st40⟩ := stI X0 hx hZ e0 Ar40 (j := p1) (inb_of S40 (own_b4 hj41)) (g := (mkF m 33 #[.val (.int p1), .val (.ref a2), .val (.int (f3_0 p1 r0 r1 r2 r3)), .val (.int p1), .val (.int (own_get r0 r1 r2 r3 p1))] [(.int (f3_0 p1 r0 r1 r2 r3)), (.int p1), (.ref a2)])) rfl rfl (hb hby d3_33)
        have K40 := K0.wr W40 (Or.inl (List.mem_of_getElem? (i := 0) rfl))
        have Z40 : n0 ≤ h40.size := Nat.le_trans Z0 (Keep.of_wr W40).1
        have N40 := Fr.snoc X40 N0 G_a2
        have V40w := Arv.set Ar40 q40 S40 M40 H40 G40 rfl W40 _ rfl (own_n4 hj41)
        rw [own_set4 hj41] at V40w
        have V40 : Arv Z h40 a2 k1 .int (4 : Int32) [(.int (if p1 = (0 : Int32) then (f3_0 p1 r0 r1 r2 r3) else r0)), (.int (if p1 = (1 : Int32) then (f3_0 p1 r0 r1 r2 r3) else r1)), (.int (if p1 = (2 : Int32) then (f3_0 p1 r0 r1 r2 r3) else r2)), (.int (if p1 = (3 : Int32) then (f3_0 p1 r0 r1 r2 r3) else r3))] (.int (0 : Int32)) := V40w
        obtain ⟨cl42, Ar42, -, S42, M42, H42, -⟩ := id V40
        have hj43 : own_in4 (own_get r0 r1 r2 r3 p1) := (own_all (fun p1 r0 r1 r2 r3 => (¬ ((own_get r0 r1 r2 r3 p1) = p1)) → (¬ ((own_get r0 r1 r2 r3 (own_get r0 r1 r2 r3 p1)) = (own_get r0 r1 r2 r3 p1))) → (¬ ((f3_0 p1 r0 r1 r2 r3) = (own_get r0 r1 r2 r3 (own_get r0 r1 r2 r3 p1)))) → (own_get r0 r1 r2 r3 (own_get r0 r1 r2 r3 (own_get r0 r1 r2 r3 (own_get r0 r1 r2 r3 p1))) = own_get r0 r1 r2 r3 (own_get r0 r1 r2 r3 (own_get r0 r1 r2 r3 p1))) → own_in4 (own_get r0 r1 r2 r3 p1)) (by decide +kernel) hs hr0 hr1 hr2 hr3 h3 h11 h19 hf)
        have hin42 := inb_of (j := (own_get r0 r1 r2 r3 p1)) S42 (own_b4 hj43)
        have hat42 := H42.at hin42 (v := (.int (f3_6 p1 r0 r1 r2 r3))) (own_rd4 hj43)
        have h44 : ¬ ((f3_6 p1 r0 r1 r2 r3) = (f3_0 p1 r0 r1 r2 r3)) := (own_all (fun p1 r0 r1 r2 r3 => (¬ ((own_get r0 r1 r2 r3 p1) = p1)) → (¬ ((own_get r0 r1 r2 r3 (own_get r0 r1 r2 r3 p1)) = (own_get r0 r1 r2 r3 p1))) → (¬ ((f3_0 p1 r0 r1 r2 r3) = (own_get r0 r1 r2 r3 (own_get r0 r1 r2 r3 p1)))) → (own_get r0 r1 r2 r3 (own_get r0 r1 r2 r3 (own_get r0 r1 r2 r3 (own_get r0 r1 r2 r3 p1))) = own_get r0 r1 r2 r3 (own_get r0 r1 r2 r3 (own_get r0 r1 r2 r3 p1))) → ¬ ((f3_6 p1 r0 r1 r2 r3) = (f3_0 p1 r0 r1 r2 r3))) (by decide +kernel) hs hr0 hr1 hr2 hr3 h3 h11 h19 hf)
        obtain ⟨cl45, Ar45, -, S45, M45, H45, -⟩ := id V40
        have hj46 : own_in4 (own_get r0 r1 r2 r3 p1) := (own_all (fun p1 r0 r1 r2 r3 => (¬ ((own_get r0 r1 r2 r3 p1) = p1)) → (¬ ((own_get r0 r1 r2 r3 (own_get r0 r1 r2 r3 p1)) = (own_get r0 r1 r2 r3 p1))) → (¬ ((f3_0 p1 r0 r1 r2 r3) = (own_get r0 r1 r2 r3 (own_get r0 r1 r2 r3 p1)))) → (own_get r0 r1 r2 r3 (own_get r0 r1 r2 r3 (own_get r0 r1 r2 r3 (own_get r0 r1 r2 r3 p1))) = own_get r0 r1 r2 r3 (own_get r0 r1 r2 r3 (own_get r0 r1 r2 r3 p1))) → own_in4 (own_get r0 r1 r2 r3 p1)) (by decide +kernel) hs hr0 hr1 hr2 hr3 h3 h11 h19 hf)
        have hin45 := inb_of (j := (own_get r0 r1 r2 r3 p1)) S45 (own_b4 hj46)
        have hat45 := H45.at hin45 (v := (.int (f3_6 p1 r0 r1 r2 r3))) (own_rd4 hj46)
        obtain ⟨cl47, Ar47, q47, S47, M47, H47, G47⟩ := id V40
        have hj48 : own_in4 (own_get r0 r1 r2 r3 p1) := (own_all (fun p1 r0 r1 r2 r3 => (¬ ((own_get r0 r1 r2 r3 p1) = p1)) → (¬ ((own_get r0 r1 r2 r3 (own_get r0 r1 r2 r3 p1)) = (own_get r0 r1 r2 r3 p1))) → (¬ ((f3_0 p1 r0 r1 r2 r3) = (own_get r0 r1 r2 r3 (own_get r0 r1 r2 r3 p1)))) → (own_get r0 r1 r2 r3 (own_get r0 r1 r2 r3 (own_get r0 r1 r2 r3 (own_get r0 r1 r2 r3 p1))) = own_get r0 r1 r2 r3 (own_get r0 r1 r2 r3 (own_get r0 r1 r2 r3 p1))) → own_in4 (own_get r0 r1 r2 r3 p1)) (by decide +kernel) hs hr0 hr1 hr2 hr3 h3 h11 h19 hf)
        obtain ⟨T47, h47, X47, e47, W47, st47⟩ := stI X40 hx hZ e40 Ar47 (j := (own_get r0 r1 r2 r3 p1)) (inb_of S47 (own_b4 hj48)) (g := (mkF m 33 #[.val (.int p1), .val (.ref a2), .val (.int (f3_0 p1 r0 r1 r2 r3)), .val (.int (own_get r0 r1 r2 r3 p1)), .val (.int (f3_6 p1 r0 r1 r2 r3))] [(.int (f3_0 p1 r0 r1 r2 r3)), (.int (own_get r0 r1 r2 r3 p1)), (.ref a2)])) rfl rfl (hb hby d3_33)
        have K47 := K40.wr W47 (Or.inl (List.mem_of_getElem? (i := 0) rfl))
        have Z47 : n0 ≤ h47.size := Nat.le_trans Z40 (Keep.of_wr W47).1
        have N47 := Fr.snoc X47 N40 G_a2
        have V47w := Arv.set Ar47 q47 S47 M47 H47 G47 rfl W47 _ rfl (own_n4 hj48)
        rw [own_set4 hj48] at V47w
        have V47 : Arv Z h47 a2 k1 .int (4 : Int32) [(.int (f3_7 p1 r0 r1 r2 r3)), (.int (f3_8 p1 r0 r1 r2 r3)), (.int (f3_9 p1 r0 r1 r2 r3)), (.int (f3_10 p1 r0 r1 r2 r3))] (.int (0 : Int32)) := V47w
        obtain ⟨cl49, Ar49, -, S49, M49, H49, -⟩ := id V47
        have hj50 : own_in4 (f3_6 p1 r0 r1 r2 r3) := (own_all (fun p1 r0 r1 r2 r3 => (¬ ((own_get r0 r1 r2 r3 p1) = p1)) → (¬ ((own_get r0 r1 r2 r3 (own_get r0 r1 r2 r3 p1)) = (own_get r0 r1 r2 r3 p1))) → (¬ ((f3_0 p1 r0 r1 r2 r3) = (own_get r0 r1 r2 r3 (own_get r0 r1 r2 r3 p1)))) → (own_get r0 r1 r2 r3 (own_get r0 r1 r2 r3 (own_get r0 r1 r2 r3 (own_get r0 r1 r2 r3 p1))) = own_get r0 r1 r2 r3 (own_get r0 r1 r2 r3 (own_get r0 r1 r2 r3 p1))) → own_in4 (f3_6 p1 r0 r1 r2 r3)) (by decide +kernel) hs hr0 hr1 hr2 hr3 h3 h11 h19 hf)
        have hin49 := inb_of (j := (f3_6 p1 r0 r1 r2 r3)) S49 (own_b4 hj50)
        have hat49 := H49.at hin49 (v := (.int (f3_11 p1 r0 r1 r2 r3))) (own_rd4 hj50)
        have h51 : (f3_11 p1 r0 r1 r2 r3) = (f3_0 p1 r0 r1 r2 r3) := (own_all (fun p1 r0 r1 r2 r3 => (¬ ((own_get r0 r1 r2 r3 p1) = p1)) → (¬ ((own_get r0 r1 r2 r3 (own_get r0 r1 r2 r3 p1)) = (own_get r0 r1 r2 r3 p1))) → (¬ ((f3_0 p1 r0 r1 r2 r3) = (own_get r0 r1 r2 r3 (own_get r0 r1 r2 r3 p1)))) → (own_get r0 r1 r2 r3 (own_get r0 r1 r2 r3 (own_get r0 r1 r2 r3 (own_get r0 r1 r2 r3 p1))) = own_get r0 r1 r2 r3 (own_get r0 r1 r2 r3 (own_get r0 r1 r2 r3 p1))) → (f3_11 p1 r0 r1 r2 r3) = (f3_0 p1 r0 r1 r2 r3)) (by decide +kernel) hs hr0 hr1 hr2 hr3 h3 h11 h19 hf)
        obtain ⟨fs, hr, hrun, hended, hW, hsame⟩ := X47.leave (v := some (.int (f3_0 p1 r0 r1 r2 r3))) (fun h => by rw [Bd.returns] at h; cases h)
        refine ⟨_, _, ?_, hrun, hended, _, _, rfl, ?_, ⟨_, rfl⟩, hW, hsame.mono (by decide) (by decide)⟩
        · show Steps p.tables e below (s₁.setTop (mkF m 6 #[.val (.int p1), .val (.ref a2), .val (.int (own_get r0 r1 r2 r3 (own_get r0 r1 r2 r3 p1))), .unset, .unset] [(.int (own_get r0 r1 r2 r3 (own_get r0 r1 r2 r3 p1))), (.int (f3_0 p1 r0 r1 r2 r3))])) _
          refine XS.icmpNo X0.here hx rfl (hb hby d3_6) rfl (feq h19).1 ?_
          show Steps p.tables e below (s₁.setTop (mkF m 9 #[.val (.int p1), .val (.ref a2), .val (.int (own_get r0 r1 r2 r3 (own_get r0 r1 r2 r3 p1))), .unset, .unset] [])) _
          refine XS.aloadN X0.here hx rfl (hb hby d3_9) rfl rfl ?_
          show Steps p.tables e below (s₁.setTop (mkF m 10 #[.val (.int p1), .val (.ref a2), .val (.int (own_get r0 r1 r2 r3 (own_get r0 r1 r2 r3 p1))), .unset, .unset] [(.ref a2)])) _
          refine XS.iloadN X0.here hx rfl (hb hby d3_10) rfl ?_
          show Steps p.tables e below (s₁.setTop (mkF m 11 #[.val (.int p1), .val (.ref a2), .val (.int (own_get r0 r1 r2 r3 (own_get r0 r1 r2 r3 p1))), .unset, .unset] [(.int (own_get r0 r1 r2 r3 (own_get r0 r1 r2 r3 p1))), (.ref a2)])) _
          refine X0.iaload hx (j := (own_get r0 r1 r2 r3 (own_get r0 r1 r2 r3 p1))) (v := (.int (f3_0 p1 r0 r1 r2 r3))) (by rw [e0]; exact Ar30.1) (State.isArrayOf_alike hZ.alike Ar30.2.1) Ar30.2.2 hin30 hat30 (g := (mkF m 11 #[.val (.int p1), .val (.ref a2), .val (.int (own_get r0 r1 r2 r3 (own_get r0 r1 r2 r3 p1))), .unset, .unset] [(.int (own_get r0 r1 r2 r3 (own_get r0 r1 r2 r3 p1))), (.ref a2)])) rfl rfl (hb hby d3_11) _ ?_
          show Steps p.tables e below (s₁.setTop (mkF m 12 #[.val (.int p1), .val (.ref a2), .val (.int (own_get r0 r1 r2 r3 (own_get r0 r1 r2 r3 p1))), .unset, .unset] [(.int (f3_0 p1 r0 r1 r2 r3))])) _
          refine XS.istoreN X0.here hx rfl (hb hby d3_12) rfl (l' := #[.val (.int p1), .val (.ref a2), .val (.int (f3_0 p1 r0 r1 r2 r3)), .unset, .unset]) rfl ?_
          show Steps p.tables e below (s₁.setTop (mkF m 13 #[.val (.int p1), .val (.ref a2), .val (.int (f3_0 p1 r0 r1 r2 r3)), .unset, .unset] [])) _
          refine XS.goto X0.here hx rfl (pc0 := 13) (pc' := 2) rfl (hb hby d3_13) (by decide) (by decide) ?_
          show Steps p.tables e below (s₁.setTop (mkF m 2 #[.val (.int p1), .val (.ref a2), .val (.int (f3_0 p1 r0 r1 r2 r3)), .unset, .unset] [])) _
          refine XS.aloadN X0.here hx rfl (hb hby d3_2) rfl rfl ?_
          show Steps p.tables e below (s₁.setTop (mkF m 3 #[.val (.int p1), .val (.ref a2), .val (.int (f3_0 p1 r0 r1 r2 r3)), .unset, .unset] [(.ref a2)])) _
          refine XS.iloadN X0.here hx rfl (hb hby d3_3) rfl ?_
          show Steps p.tables e below (s₁.setTop (mkF m 4 #[.val (.int p1), .val (.ref a2), .val (.int (f3_0 p1 r0 r1 r2 r3)), .unset, .unset] [(.int (f3_0 p1 r0 r1 r2 r3)), (.ref a2)])) _
          refine X0.iaload hx (j := (f3_0 p1 r0 r1 r2 r3)) (v := (.int (own_get r0 r1 r2 r3 (f3_0 p1 r0 r1 r2 r3)))) (by rw [e0]; exact Ar32.1) (State.isArrayOf_alike hZ.alike Ar32.2.1) Ar32.2.2 hin32 hat32 (g := (mkF m 4 #[.val (.int p1), .val (.ref a2), .val (.int (f3_0 p1 r0 r1 r2 r3)), .unset, .unset] [(.int (f3_0 p1 r0 r1 r2 r3)), (.ref a2)])) rfl rfl (hb hby d3_4) _ ?_
          show Steps p.tables e below (s₁.setTop (mkF m 5 #[.val (.int p1), .val (.ref a2), .val (.int (f3_0 p1 r0 r1 r2 r3)), .unset, .unset] [(.int (own_get r0 r1 r2 r3 (f3_0 p1 r0 r1 r2 r3)))])) _
          refine XS.iloadN X0.here hx rfl (hb hby d3_5) rfl ?_
          show Steps p.tables e below (s₁.setTop (mkF m 6 #[.val (.int p1), .val (.ref a2), .val (.int (f3_0 p1 r0 r1 r2 r3)), .unset, .unset] [(.int (f3_0 p1 r0 r1 r2 r3)), (.int (own_get r0 r1 r2 r3 (f3_0 p1 r0 r1 r2 r3)))])) _
          refine XS.icmpYes X0.here hx rfl (pc0 := 6) (pc' := 16) rfl (hb hby d3_6) rfl (teq h34).1 (by decide) (by decide) ?_
          show Steps p.tables e below (s₁.setTop (mkF m 16 #[.val (.int p1), .val (.ref a2), .val (.int (f3_0 p1 r0 r1 r2 r3)), .unset, .unset] [])) _
          refine XS.iloadN X0.here hx rfl (hb hby d3_16) rfl ?_
          show Steps p.tables e below (s₁.setTop (mkF m 17 #[.val (.int p1), .val (.ref a2), .val (.int (f3_0 p1 r0 r1 r2 r3)), .unset, .unset] [(.int p1)])) _
          refine XS.istoreN X0.here hx rfl (hb hby d3_17) rfl (l' := #[.val (.int p1), .val (.ref a2), .val (.int (f3_0 p1 r0 r1 r2 r3)), .val (.int p1), .unset]) rfl ?_
          show Steps p.tables e below (s₁.setTop (mkF m 18 #[.val (.int p1), .val (.ref a2), .val (.int (f3_0 p1 r0 r1 r2 r3)), .val (.int p1), .unset] [])) _
          refine XS.aloadN X0.here hx rfl (hb hby d3_18) rfl rfl ?_
          show Steps p.tables e below (s₁.setTop (mkF m 19 #[.val (.int p1), .val (.ref a2), .val (.int (f3_0 p1 r0 r1 r2 r3)), .val (.int p1), .unset] [(.ref a2)])) _
          refine XS.iloadN X0.here hx rfl (hb hby d3_19) rfl ?_
          show Steps p.tables e below (s₁.setTop (mkF m 20 #[.val (.int p1), .val (.ref a2), .val (.int (f3_0 p1 r0 r1 r2 r3)), .val (.int p1), .unset] [(.int p1), (.ref a2)])) _
          refine X0.iaload hx (j := p1) (v := (.int (own_get r0 r1 r2 r3 p1))) (by rw [e0]; exact Ar35.1) (State.isArrayOf_alike hZ.alike Ar35.2.1) Ar35.2.2 hin35 hat35 (g := (mkF m 20 #[.val (.int p1), .val (.ref a2), .val (.int (f3_0 p1 r0 r1 r2 r3)), .val (.int p1), .unset] [(.int p1), (.ref a2)])) rfl rfl (hb hby d3_20) _ ?_
          show Steps p.tables e below (s₁.setTop (mkF m 21 #[.val (.int p1), .val (.ref a2), .val (.int (f3_0 p1 r0 r1 r2 r3)), .val (.int p1), .unset] [(.int (own_get r0 r1 r2 r3 p1))])) _
          refine XS.iloadN X0.here hx rfl (hb hby d3_21) rfl ?_
          show Steps p.tables e below (s₁.setTop (mkF m 22 #[.val (.int p1), .val (.ref a2), .val (.int (f3_0 p1 r0 r1 r2 r3)), .val (.int p1), .unset] [(.int (f3_0 p1 r0 r1 r2 r3)), (.int (own_get r0 r1 r2 r3 p1))])) _
          refine XS.icmpNo X0.here hx rfl (hb hby d3_22) rfl (feq h37).1 ?_
          show Steps p.tables e below (s₁.setTop (mkF m 25 #[.val (.int p1), .val (.ref a2), .val (.int (f3_0 p1 r0 r1 r2 r3)), .val (.int p1), .unset] [])) _
          refine XS.aloadN X0.here hx rfl (hb hby d3_25) rfl rfl ?_
          show Steps p.tables e below (s₁.setTop (mkF m 26 #[.val (.int p1), .val (.ref a2), .val (.int (f3_0 p1 r0 r1 r2 r3)), .val (.int p1), .unset] [(.ref a2)])) _
          refine XS.iloadN X0.here hx rfl (hb hby d3_26) rfl ?_
          show Steps p.tables e below (s₁.setTop (mkF m 27 #[.val (.int p1), .val (.ref a2), .val (.int (f3_0 p1 r0 r1 r2 r3)), .val (.int p1), .unset] [(.int p1), (.ref a2)])) _
          refine X0.iaload hx (j := p1) (v := (.int (own_get r0 r1 r2 r3 p1))) (by rw [e0]; exact Ar38.1) (State.isArrayOf_alike hZ.alike Ar38.2.1) Ar38.2.2 hin38 hat38 (g := (mkF m 27 #[.val (.int p1), .val (.ref a2), .val (.int (f3_0 p1 r0 r1 r2 r3)), .val (.int p1), .unset] [(.int p1), (.ref a2)])) rfl rfl (hb hby d3_27) _ ?_
          show Steps p.tables e below (s₁.setTop (mkF m 28 #[.val (.int p1), .val (.ref a2), .val (.int (f3_0 p1 r0 r1 r2 r3)), .val (.int p1), .unset] [(.int (own_get r0 r1 r2 r3 p1))])) _
          refine XS.istore X0.here hx rfl (hb hby d3_28) rfl (l' := #[.val (.int p1), .val (.ref a2), .val (.int (f3_0 p1 r0 r1 r2 r3)), .val (.int p1), .val (.int (own_get r0 r1 r2 r3 p1))]) rfl ?_
          show Steps p.tables e below (s₁.setTop (mkF m 30 #[.val (.int p1), .val (.ref a2), .val (.int (f3_0 p1 r0 r1 r2 r3)), .val (.int p1), .val (.int (own_get r0 r1 r2 r3 p1))] [])) _
          refine XS.aloadN X0.here hx rfl (hb hby d3_30) rfl rfl ?_
          show Steps p.tables e below (s₁.setTop (mkF m 31 #[.val (.int p1), .val (.ref a2), .val (.int (f3_0 p1 r0 r1 r2 r3)), .val (.int p1), .val (.int (own_get r0 r1 r2 r3 p1))] [(.ref a2)])) _
          refine XS.iloadN X0.here hx rfl (hb hby d3_31) rfl ?_
          show Steps p.tables e below (s₁.setTop (mkF m 32 #[.val (.int p1), .val (.ref a2), .val (.int (f3_0 p1 r0 r1 r2 r3)), .val (.int p1), .val (.int (own_get r0 r1 r2 r3 p1))] [(.int p1), (.ref a2)])) _
          refine XS.iloadN X0.here hx rfl (hb hby d3_32) rfl ?_
          show Steps p.tables e below (s₁.setTop (mkF m 33 #[.val (.int p1), .val (.ref a2), .val (.int (f3_0 p1 r0 r1 r2 r3)), .val (.int p1), .val (.int (own_get r0 r1 r2 r3 p1))] [(.int (f3_0 p1 r0 r1 r2 r3)), (.int p1), (.ref a2)])) _
          refine st40 _ ?_
          show Steps p.tables e below (T40.setTop (mkF m 34 #[.val (.int p1), .val (.ref a2), .val (.int (f3_0 p1 r0 r1 r2 r3)), .val (.int p1), .val (.int (own_get r0 r1 r2 r3 p1))] [])) _
          refine XS.iload X40.here hx rfl (hb hby d3_34) rfl ?_
          show Steps p.tables e below (T40.setTop (mkF m 36 #[.val (.int p1), .val (.ref a2), .val (.int (f3_0 p1 r0 r1 r2 r3)), .val (.int p1), .val (.int (own_get r0 r1 r2 r3 p1))] [(.int (own_get r0 r1 r2 r3 p1))])) _
          refine XS.istoreN X40.here hx rfl (hb hby d3_36) rfl (l' := #[.val (.int p1), .val (.ref a2), .val (.int (f3_0 p1 r0 r1 r2 r3)), .val (.int (own_get r0 r1 r2 r3 p1)), .val (.int (own_get r0 r1 r2 r3 p1))]) rfl ?_
          show Steps p.tables e below (T40.setTop (mkF m 37 #[.val (.int p1), .val (.ref a2), .val (.int (f3_0 p1 r0 r1 r2 r3)), .val (.int (own_get r0 r1 r2 r3 p1)), .val (.int (own_get r0 r1 r2 r3 p1))] [])) _
          refine XS.goto X40.here hx rfl (pc0 := 37) (pc' := 18) rfl (hb hby d3_37) (by decide) (by decide) ?_
          show Steps p.tables e below (T40.setTop (mkF m 18 #[.val (.int p1), .val (.ref a2), .val (.int (f3_0 p1 r0 r1 r2 r3)), .val (.int (own_get r0 r1 r2 r3 p1)), .val (.int (own_get r0 r1 r2 r3 p1))] [])) _
          refine XS.aloadN X40.here hx rfl (hb hby d3_18) rfl rfl ?_
          show Steps p.tables e below (T40.setTop (mkF m 19 #[.val (.int p1), .val (.ref a2), .val (.int (f3_0 p1 r0 r1 r2 r3)), .val (.int (own_get r0 r1 r2 r3 p1)), .val (.int (own_get r0 r1 r2 r3 p1))] [(.ref a2)])) _
          refine XS.iloadN X40.here hx rfl (hb hby d3_19) rfl ?_
          show Steps p.tables e below (T40.setTop (mkF m 20 #[.val (.int p1), .val (.ref a2), .val (.int (f3_0 p1 r0 r1 r2 r3)), .val (.int (own_get r0 r1 r2 r3 p1)), .val (.int (own_get r0 r1 r2 r3 p1))] [(.int (own_get r0 r1 r2 r3 p1)), (.ref a2)])) _
          refine X40.iaload hx (j := (own_get r0 r1 r2 r3 p1)) (v := (.int (f3_6 p1 r0 r1 r2 r3))) (by rw [e40]; exact Ar42.1) (State.isArrayOf_alike hZ.alike Ar42.2.1) Ar42.2.2 hin42 hat42 (g := (mkF m 20 #[.val (.int p1), .val (.ref a2), .val (.int (f3_0 p1 r0 r1 r2 r3)), .val (.int (own_get r0 r1 r2 r3 p1)), .val (.int (own_get r0 r1 r2 r3 p1))] [(.int (own_get r0 r1 r2 r3 p1)), (.ref a2)])) rfl rfl (hb hby d3_20) _ ?_
          show Steps p.tables e below (T40.setTop (mkF m 21 #[.val (.int p1), .val (.ref a2), .val (.int (f3_0 p1 r0 r1 r2 r3)), .val (.int (own_get r0 r1 r2 r3 p1)), .val (.int (own_get r0 r1 r2 r3 p1))] [(.int (f3_6 p1 r0 r1 r2 r3))])) _
          refine XS.iloadN X40.here hx rfl (hb hby d3_21) rfl ?_
          show Steps p.tables e below (T40.setTop (mkF m 22 #[.val (.int p1), .val (.ref a2), .val (.int (f3_0 p1 r0 r1 r2 r3)), .val (.int (own_get r0 r1 r2 r3 p1)), .val (.int (own_get r0 r1 r2 r3 p1))] [(.int (f3_0 p1 r0 r1 r2 r3)), (.int (f3_6 p1 r0 r1 r2 r3))])) _
          refine XS.icmpNo X40.here hx rfl (hb hby d3_22) rfl (feq h44).1 ?_
          show Steps p.tables e below (T40.setTop (mkF m 25 #[.val (.int p1), .val (.ref a2), .val (.int (f3_0 p1 r0 r1 r2 r3)), .val (.int (own_get r0 r1 r2 r3 p1)), .val (.int (own_get r0 r1 r2 r3 p1))] [])) _
          refine XS.aloadN X40.here hx rfl (hb hby d3_25) rfl rfl ?_
          show Steps p.tables e below (T40.setTop (mkF m 26 #[.val (.int p1), .val (.ref a2), .val (.int (f3_0 p1 r0 r1 r2 r3)), .val (.int (own_get r0 r1 r2 r3 p1)), .val (.int (own_get r0 r1 r2 r3 p1))] [(.ref a2)])) _
          refine XS.iloadN X40.here hx rfl (hb hby d3_26) rfl ?_
          show Steps p.tables e below (T40.setTop (mkF m 27 #[.val (.int p1), .val (.ref a2), .val (.int (f3_0 p1 r0 r1 r2 r3)), .val (.int (own_get r0 r1 r2 r3 p1)), .val (.int (own_get r0 r1 r2 r3 p1))] [(.int (own_get r0 r1 r2 r3 p1)), (.ref a2)])) _
          refine X40.iaload hx (j := (own_get r0 r1 r2 r3 p1)) (v := (.int (f3_6 p1 r0 r1 r2 r3))) (by rw [e40]; exact Ar45.1) (State.isArrayOf_alike hZ.alike Ar45.2.1) Ar45.2.2 hin45 hat45 (g := (mkF m 27 #[.val (.int p1), .val (.ref a2), .val (.int (f3_0 p1 r0 r1 r2 r3)), .val (.int (own_get r0 r1 r2 r3 p1)), .val (.int (own_get r0 r1 r2 r3 p1))] [(.int (own_get r0 r1 r2 r3 p1)), (.ref a2)])) rfl rfl (hb hby d3_27) _ ?_
          show Steps p.tables e below (T40.setTop (mkF m 28 #[.val (.int p1), .val (.ref a2), .val (.int (f3_0 p1 r0 r1 r2 r3)), .val (.int (own_get r0 r1 r2 r3 p1)), .val (.int (own_get r0 r1 r2 r3 p1))] [(.int (f3_6 p1 r0 r1 r2 r3))])) _
          refine XS.istore X40.here hx rfl (hb hby d3_28) rfl (l' := #[.val (.int p1), .val (.ref a2), .val (.int (f3_0 p1 r0 r1 r2 r3)), .val (.int (own_get r0 r1 r2 r3 p1)), .val (.int (f3_6 p1 r0 r1 r2 r3))]) rfl ?_
          show Steps p.tables e below (T40.setTop (mkF m 30 #[.val (.int p1), .val (.ref a2), .val (.int (f3_0 p1 r0 r1 r2 r3)), .val (.int (own_get r0 r1 r2 r3 p1)), .val (.int (f3_6 p1 r0 r1 r2 r3))] [])) _
          refine XS.aloadN X40.here hx rfl (hb hby d3_30) rfl rfl ?_
          show Steps p.tables e below (T40.setTop (mkF m 31 #[.val (.int p1), .val (.ref a2), .val (.int (f3_0 p1 r0 r1 r2 r3)), .val (.int (own_get r0 r1 r2 r3 p1)), .val (.int (f3_6 p1 r0 r1 r2 r3))] [(.ref a2)])) _
          refine XS.iloadN X40.here hx rfl (hb hby d3_31) rfl ?_
          show Steps p.tables e below (T40.setTop (mkF m 32 #[.val (.int p1), .val (.ref a2), .val (.int (f3_0 p1 r0 r1 r2 r3)), .val (.int (own_get r0 r1 r2 r3 p1)), .val (.int (f3_6 p1 r0 r1 r2 r3))] [(.int (own_get r0 r1 r2 r3 p1)), (.ref a2)])) _
          refine XS.iloadN X40.here hx rfl (hb hby d3_32) rfl ?_
          show Steps p.tables e below (T40.setTop (mkF m 33 #[.val (.int p1), .val (.ref a2), .val (.int (f3_0 p1 r0 r1 r2 r3)), .val (.int (own_get r0 r1 r2 r3 p1)), .val (.int (f3_6 p1 r0 r1 r2 r3))] [(.int (f3_0 p1 r0 r1 r2 r3)), (.int (own_get r0 r1 r2 r3 p1)), (.ref a2)])) _
          refine st47 _ ?_
          show Steps p.tables e below (T47.setTop (mkF m 34 #[.val (.int p1), .val (.ref a2), .val (.int (f3_0 p1 r0 r1 r2 r3)), .val (.int (own_get r0 r1 r2 r3 p1)), .val (.int (f3_6 p1 r0 r1 r2 r3))] [])) _
          refine XS.iload X47.here hx rfl (hb hby d3_34) rfl ?_
          show Steps p.tables e below (T47.setTop (mkF m 36 #[.val (.int p1), .val (.ref a2), .val (.int (f3_0 p1 r0 r1 r2 r3)), .val (.int (own_get r0 r1 r2 r3 p1)), .val (.int (f3_6 p1 r0 r1 r2 r3))] [(.int (f3_6 p1 r0 r1 r2 r3))])) _
          refine XS.istoreN X47.here hx rfl (hb hby d3_36) rfl (l' := #[.val (.int p1), .val (.ref a2), .val (.int (f3_0 p1 r0 r1 r2 r3)), .val (.int (f3_6 p1 r0 r1 r2 r3)), .val (.int (f3_6 p1 r0 r1 r2 r3))]) rfl ?_
          show Steps p.tables e below (T47.setTop (mkF m 37 #[.val (.int p1), .val (.ref a2), .val (.int (f3_0 p1 r0 r1 r2 r3)), .val (.int (f3_6 p1 r0 r1 r2 r3)), .val (.int (f3_6 p1 r0 r1 r2 r3))] [])) _
          refine XS.goto X47.here hx rfl (pc0 := 37) (pc' := 18) rfl (hb hby d3_37) (by decide) (by decide) ?_
          show Steps p.tables e below (T47.setTop (mkF m 18 #[.val (.int p1), .val (.ref a2), .val (.int (f3_0 p1 r0 r1 r2 r3)), .val (.int (f3_6 p1 r0 r1 r2 r3)), .val (.int (f3_6 p1 r0 r1 r2 r3))] [])) _
          refine XS.aloadN X47.here hx rfl (hb hby d3_18) rfl rfl ?_
          show Steps p.tables e below (T47.setTop (mkF m 19 #[.val (.int p1), .val (.ref a2), .val (.int (f3_0 p1 r0 r1 r2 r3)), .val (.int (f3_6 p1 r0 r1 r2 r3)), .val (.int (f3_6 p1 r0 r1 r2 r3))] [(.ref a2)])) _
          refine XS.iloadN X47.here hx rfl (hb hby d3_19) rfl ?_
          show Steps p.tables e below (T47.setTop (mkF m 20 #[.val (.int p1), .val (.ref a2), .val (.int (f3_0 p1 r0 r1 r2 r3)), .val (.int (f3_6 p1 r0 r1 r2 r3)), .val (.int (f3_6 p1 r0 r1 r2 r3))] [(.int (f3_6 p1 r0 r1 r2 r3)), (.ref a2)])) _
          refine X47.iaload hx (j := (f3_6 p1 r0 r1 r2 r3)) (v := (.int (f3_11 p1 r0 r1 r2 r3))) (by rw [e47]; exact Ar49.1) (State.isArrayOf_alike hZ.alike Ar49.2.1) Ar49.2.2 hin49 hat49 (g := (mkF m 20 #[.val (.int p1), .val (.ref a2), .val (.int (f3_0 p1 r0 r1 r2 r3)), .val (.int (f3_6 p1 r0 r1 r2 r3)), .val (.int (f3_6 p1 r0 r1 r2 r3))] [(.int (f3_6 p1 r0 r1 r2 r3)), (.ref a2)])) rfl rfl (hb hby d3_20) _ ?_
          show Steps p.tables e below (T47.setTop (mkF m 21 #[.val (.int p1), .val (.ref a2), .val (.int (f3_0 p1 r0 r1 r2 r3)), .val (.int (f3_6 p1 r0 r1 r2 r3)), .val (.int (f3_6 p1 r0 r1 r2 r3))] [(.int (f3_11 p1 r0 r1 r2 r3))])) _
          refine XS.iloadN X47.here hx rfl (hb hby d3_21) rfl ?_
          show Steps p.tables e below (T47.setTop (mkF m 22 #[.val (.int p1), .val (.ref a2), .val (.int (f3_0 p1 r0 r1 r2 r3)), .val (.int (f3_6 p1 r0 r1 r2 r3)), .val (.int (f3_6 p1 r0 r1 r2 r3))] [(.int (f3_0 p1 r0 r1 r2 r3)), (.int (f3_11 p1 r0 r1 r2 r3))])) _
          refine XS.icmpYes X47.here hx rfl (pc0 := 22) (pc' := 40) rfl (hb hby d3_22) rfl (teq h51).1 (by decide) (by decide) ?_
          show Steps p.tables e below (T47.setTop (mkF m 40 #[.val (.int p1), .val (.ref a2), .val (.int (f3_0 p1 r0 r1 r2 r3)), .val (.int (f3_6 p1 r0 r1 r2 r3)), .val (.int (f3_6 p1 r0 r1 r2 r3))] [])) _
          refine XS.iloadN X47.here hx rfl (hb hby d3_40) rfl ?_
          show Steps p.tables e below (T47.setTop (mkF m 41 #[.val (.int p1), .val (.ref a2), .val (.int (f3_0 p1 r0 r1 r2 r3)), .val (.int (f3_6 p1 r0 r1 r2 r3)), .val (.int (f3_6 p1 r0 r1 r2 r3))] [(.int (f3_0 p1 r0 r1 r2 r3))])) _
          exact retI X47 hx Bd.returns (hb hby d3_41) hr
        · show Q3 Z p1 a2 k1 r0 r1 r2 r3 h0 n0 _ T47.heap _
          rw [e47]
          have hx1 : f3_x0 p1 r0 r1 r2 r3 = (f3_7 p1 r0 r1 r2 r3) := by simp only [f3_x0, if_neg h3, if_neg h11, if_neg h19]
          have hx2 : f3_x1 p1 r0 r1 r2 r3 = (f3_8 p1 r0 r1 r2 r3) := by simp only [f3_x1, if_neg h3, if_neg h11, if_neg h19]
          have hx3 : f3_x2 p1 r0 r1 r2 r3 = (f3_9 p1 r0 r1 r2 r3) := by simp only [f3_x2, if_neg h3, if_neg h11, if_neg h19]
          have hx4 : f3_x3 p1 r0 r1 r2 r3 = (f3_10 p1 r0 r1 r2 r3) := by simp only [f3_x3, if_neg h3, if_neg h11, if_neg h19]
          have hf : f3 p1 r0 r1 r2 r3 = (f3_0 p1 r0 r1 r2 r3) := by simp only [f3, if_neg h3, if_neg h11, if_neg h19]
          exact ⟨by rw [hf], N47, K47, (by rw [hx1, hx2, hx3, hx4]; exact V47)⟩
theorem d4_0 : decode method_3_code 0 = .ok (.iload_n 1, 1) := by decide +kernel
theorem d4_1 : decode method_3_code 1 = .ok (.iload_n 2, 1) := by decide +kernel
theorem d4_2 : decode method_3_code 2 = .ok (.if_icmp .eq 14, 3) := by decide +kernel
theorem d4_5 : decode method_3_code 5 = .ok (.iload_n 1, 1) := by decide +kernel
theorem d4_6 : decode method_3_code 6 = .ok (.iload_n 3, 1) := by decide +kernel
theorem d4_7 : decode method_3_code 7 = .ok (.if_icmp .eq 9, 3) := by decide +kernel
theorem d4_10 : decode method_3_code 10 = .ok (.iload_n 1, 1) := by decide +kernel
theorem d4_11 : decode method_3_code 11 = .ok (.iload 4, 2) := by decide +kernel
theorem d4_13 : decode method_3_code 13 = .ok (.if_icmp .ne 13, 3) := by decide +kernel
theorem d4_16 : decode method_3_code 16 = .ok (.iload_n 1, 1) := by decide +kernel
theorem d4_17 : decode method_3_code 17 = .ok (.iload 5, 2) := by decide +kernel
theorem d4_19 : decode method_3_code 19 = .ok (.if_icmp .eq 7, 3) := by decide +kernel
theorem d4_22 : decode method_3_code 22 = .ok (.iconst 1, 1) := by decide +kernel
theorem d4_23 : decode method_3_code 23 = .ok (.goto 4, 3) := by decide +kernel
theorem d4_26 : decode method_3_code 26 = .ok (.iconst 0, 1) := by decide +kernel
theorem d4_27 : decode method_3_code 27 = .ok (.istore 6, 2) := by decide +kernel
theorem d4_29 : decode method_3_code 29 = .ok (.iload 6, 2) := by decide +kernel
theorem d4_31 : decode method_3_code 31 = .ok (.ifCond .eq 8, 3) := by decide +kernel
theorem d4_34 : decode method_3_code 34 = .ok (.iload 5, 2) := by decide +kernel
theorem d4_36 : decode method_3_code 36 = .ok (.goto 6, 3) := by decide +kernel
theorem d4_39 : decode method_3_code 39 = .ok (.aload_n 0, 1) := by decide +kernel
theorem d4_40 : decode method_3_code 40 = .ok (.iload_n 1, 1) := by decide +kernel
theorem d4_41 : decode method_3_code 41 = .ok (.iaload, 1) := by decide +kernel
theorem d4_42 : decode method_3_code 42 = .ok (.ireturn, 1) := by decide +kernel
theorem pn_ex0 : plainName "com/example/bonn/bonn/ValueGroupsRootPinLaw" = true := by first | (simp [plainName, overriddenIn]; done) | decide +kernel
theorem ef_ex0 (m : MethodId) (a1 : Addr) (p3 : Int32) (p4 : Int32) (p5 : Int32) (p6 : Int32) : entryFrame m #[(.ref a1), (.int (0 : Int32)), (.int p3), (.int p4), (.int p5), (.int p6)] 7 = mkF m 0 #[.val (.ref a1), .val (.int (0 : Int32)), .val (.int p3), .val (.int p4), .val (.int p5), .val (.int p6), .unset] [] := by first | (simp [entryFrame, mkF, argsToLocals, Value.category]; done) | rfl
def Qex0 (Z : State) (a1 : Addr) (p3 : Int32) (p4 : Int32) (p5 : Int32) (p6 : Int32) (k1 : ClassId) (r0 : Int32) (r1 : Int32) (r2 : Int32) (r3 : Int32) (h0 : Heap) (n0 : Nat) (v : Option Value) (h : Heap) (L : List Loc) : Prop := v = some (.int (fex0 p3 p4 p5 p6 r0 r1 r2 r3)) ∧ Fr n0 L ∧ h = h0
set_option maxRecDepth 65536 in
set_option maxHeartbeats 40000000 in
theorem rmex0 (l : Launch) (Z : State) (a0 : Array Value) (hw : ∀ d ∈ tables_1, d.before a0 Z = true) (ws : List Jvm.Cond) (a1 : Addr) (p3 : Int32) (p4 : Int32) (p5 : Int32) (p6 : Int32) (k1 : ClassId) (r0 : Int32) (r1 : Int32) (r2 : Int32) (r3 : Int32) (h0 : Heap) (n0 : Nat) (Z0 : n0 ≤ h0.size) (A_a1 : Arv Z h0 a1 k1 .int (4 : Int32) [(.int r0), (.int r1), (.int r2), (.int r3)] (.int (0 : Int32))) :
    MetFree l (⟨"com/example/bonn/bonn/ValueGroupsRootPinLaw", "expected", "([IIIIII)I"⟩ : MethodName) (head1 (Jvm.Cond.code (⟨"com/example/bonn/bonn/ValueGroupsRootPinLaw", "expected", "([IIIIII)I"⟩ : MethodName) method_3_code 7 (some .int) :: ws) ({ frames := 0, cells := 0, slots := 0, locals := 0 } : Room)) (fun a U => a = #[(.ref a1), (.int (0 : Int32)), (.int p3), (.int p4), (.int p5), (.int p6)] ∧ Z.Warmed39 U.vm ∧ U.heap = h0) (fun _ _ _ _ _ => True) (fun _ U o U' => ∃ v L, o = .returned v ∧ Qex0 Z a1 p3 p4 p5 p6 k1 r0 r1 r2 r3 h0 n0 v U'.heap L ∧ FrameEnd U o U' L ({ frames := 0, cells := 0, slots := 0, locals := 0 } : Room).cells ({ frames := 0, cells := 0, slots := 0, locals := 0 } : Room).slots) := by
  refine MetFree.of_bodySF (plainFor_of_name pn_ex0) hisR ?_
  intro p e s m args below meth c s₁ Bd hml0 hP hK
  obtain ⟨rfl, hZ, hh⟩ := hP
  have hx := Bd.exec
  have hby := Bd.bytes
  have hml : c.maxLocals = 7 := hml0
  have hown : s.vm.findClass "com/example/bonn/bonn/ValueGroupsRootPinLaw" = some m.cls := findClass_of_methodNamed Bd.named
  have hnm := (name_of_methodNamed Bd.named Bd.method).1
  have X0 : Stand p l e ({ frames := 0, cells := 0, slots := 0, locals := 0 } : Room) s m #[(.ref a1), (.int (0 : Int32)), (.int p3), (.int p4), (.int p5), (.int p6)] below meth c s₁ [] 0 0 := Stand.of_body Bd
  have e0 : s₁.heap = h0 := by rw [← hh, Bd.state]; rfl
  have N0 := Fr.nil n0
  have pre0 : ∀ t, Steps p.tables e below (s₁.setTop (mkF m 0 #[.val (.ref a1), .val (.int (0 : Int32)), .val (.int p3), .val (.int p4), .val (.int p5), .val (.int p6), .unset] [])) t → Steps p.tables e below (s₁.setTop (entryFrame m #[(.ref a1), (.int (0 : Int32)), (.int p3), (.int p4), (.int p5), (.int p6)] 7)) t := fun t k => castTop (ef_ex0 m a1 p3 p4 p5 p6) k
  refine own_step (Q := fun o U' => ∃ v L, o = .returned v ∧ Qex0 Z a1 p3 p4 p5 p6 k1 r0 r1 r2 r3 h0 n0 v U'.heap L ∧ FrameEnd s o U' L ({ frames := 0, cells := 0, slots := 0, locals := 0 } : Room).cells ({ frames := 0, cells := 0, slots := 0, locals := 0 } : Room).slots) pre0 ?_
  have st12 : ∀ t, Steps p.tables e below (s₁.setTop (mkF m 27 #[.val (.ref a1), .val (.int (0 : Int32)), .val (.int p3), .val (.int p4), .val (.int p5), .val (.int p6), .unset] [(.int (fex0_2 p3 p4 p5 p6 r0 r1 r2 r3))])) t → Steps p.tables e below (s₁.setTop (mkF m 2 #[.val (.ref a1), .val (.int (0 : Int32)), .val (.int p3), .val (.int p4), .val (.int p5), .val (.int p6), .unset] [(.int p3), (.int (0 : Int32))])) t := by
    intro t k
    by_cases h1 : (0 : Int32) = p3
    · have st3 : ∀ t, Steps p.tables e below (s₁.setTop (mkF m 27 #[.val (.ref a1), .val (.int (0 : Int32)), .val (.int p3), .val (.int p4), .val (.int p5), .val (.int p6), .unset] [(.int (if (0 : Int32) = p6 then (0 : Int32) else (1 : Int32)))])) t → Steps p.tables e below (s₁.setTop (mkF m 19 #[.val (.ref a1), .val (.int (0 : Int32)), .val (.int p3), .val (.int p4), .val (.int p5), .val (.int p6), .unset] [(.int p6), (.int (0 : Int32))])) t := by
        intro t k
        by_cases h2 : (0 : Int32) = p6
        · rw [show (if (0 : Int32) = p6 then (0 : Int32) else (1 : Int32)) = (0 : Int32) from if_pos h2] at k
          show Steps p.tables e below (s₁.setTop (mkF m 19 #[.val (.ref a1), .val (.int (0 : Int32)), .val (.int p3), .val (.int p4), .val (.int p5), .val (.int p6), .unset] [(.int p6), (.int (0 : Int32))])) _
          refine XS.icmpYes X0.here hx rfl (pc0 := 19) (pc' := 26) rfl (hb hby d4_19) rfl (teq h2).1 (by decide) (by decide) ?_
          show Steps p.tables e below (s₁.setTop (mkF m 26 #[.val (.ref a1), .val (.int (0 : Int32)), .val (.int p3), .val (.int p4), .val (.int p5), .val (.int p6), .unset] [])) _
          refine XS.iconst X0.here hx rfl (hb hby d4_26) ?_
          exact k
        · rw [show (if (0 : Int32) = p6 then (0 : Int32) else (1 : Int32)) = (1 : Int32) from if_neg h2] at k
          show Steps p.tables e below (s₁.setTop (mkF m 19 #[.val (.ref a1), .val (.int (0 : Int32)), .val (.int p3), .val (.int p4), .val (.int p5), .val (.int p6), .unset] [(.int p6), (.int (0 : Int32))])) _
          refine XS.icmpNo X0.here hx rfl (hb hby d4_19) rfl (feq h2).1 ?_
          show Steps p.tables e below (s₁.setTop (mkF m 22 #[.val (.ref a1), .val (.int (0 : Int32)), .val (.int p3), .val (.int p4), .val (.int p5), .val (.int p6), .unset] [])) _
          refine XS.iconst X0.here hx rfl (hb hby d4_22) ?_
          show Steps p.tables e below (s₁.setTop (mkF m 23 #[.val (.ref a1), .val (.int (0 : Int32)), .val (.int p3), .val (.int p4), .val (.int p5), .val (.int p6), .unset] [(.int (1 : Int32))])) _
          refine XS.goto X0.here hx rfl (pc0 := 23) (pc' := 27) rfl (hb hby d4_23) (by decide) (by decide) ?_
          exact k
      rw [show (fex0_2 p3 p4 p5 p6 r0 r1 r2 r3) = (if (0 : Int32) = p6 then (0 : Int32) else (1 : Int32)) from if_pos h1] at k
      show Steps p.tables e below (s₁.setTop (mkF m 2 #[.val (.ref a1), .val (.int (0 : Int32)), .val (.int p3), .val (.int p4), .val (.int p5), .val (.int p6), .unset] [(.int p3), (.int (0 : Int32))])) _
      refine XS.icmpYes X0.here hx rfl (pc0 := 2) (pc' := 16) rfl (hb hby d4_2) rfl (teq h1).1 (by decide) (by decide) ?_
      show Steps p.tables e below (s₁.setTop (mkF m 16 #[.val (.ref a1), .val (.int (0 : Int32)), .val (.int p3), .val (.int p4), .val (.int p5), .val (.int p6), .unset] [])) _
      refine XS.iloadN X0.here hx rfl (hb hby d4_16) rfl ?_
      show Steps p.tables e below (s₁.setTop (mkF m 17 #[.val (.ref a1), .val (.int (0 : Int32)), .val (.int p3), .val (.int p4), .val (.int p5), .val (.int p6), .unset] [(.int (0 : Int32))])) _
      refine XS.iload X0.here hx rfl (hb hby d4_17) rfl ?_
      show Steps p.tables e below (s₁.setTop (mkF m 19 #[.val (.ref a1), .val (.int (0 : Int32)), .val (.int p3), .val (.int p4), .val (.int p5), .val (.int p6), .unset] [(.int p6), (.int (0 : Int32))])) _
      refine st3 _ ?_
      exact k
    · have st11 : ∀ t, Steps p.tables e below (s₁.setTop (mkF m 27 #[.val (.ref a1), .val (.int (0 : Int32)), .val (.int p3), .val (.int p4), .val (.int p5), .val (.int p6), .unset] [(.int (fex0_1 p3 p4 p5 p6 r0 r1 r2 r3))])) t → Steps p.tables e below (s₁.setTop (mkF m 7 #[.val (.ref a1), .val (.int (0 : Int32)), .val (.int p3), .val (.int p4), .val (.int p5), .val (.int p6), .unset] [(.int p4), (.int (0 : Int32))])) t := by
        intro t k
        by_cases h4 : (0 : Int32) = p4
        · have st6 : ∀ t, Steps p.tables e below (s₁.setTop (mkF m 27 #[.val (.ref a1), .val (.int (0 : Int32)), .val (.int p3), .val (.int p4), .val (.int p5), .val (.int p6), .unset] [(.int (if (0 : Int32) = p6 then (0 : Int32) else (1 : Int32)))])) t → Steps p.tables e below (s₁.setTop (mkF m 19 #[.val (.ref a1), .val (.int (0 : Int32)), .val (.int p3), .val (.int p4), .val (.int p5), .val (.int p6), .unset] [(.int p6), (.int (0 : Int32))])) t := by
            intro t k
            by_cases h5 : (0 : Int32) = p6
            · rw [show (if (0 : Int32) = p6 then (0 : Int32) else (1 : Int32)) = (0 : Int32) from if_pos h5] at k
              show Steps p.tables e below (s₁.setTop (mkF m 19 #[.val (.ref a1), .val (.int (0 : Int32)), .val (.int p3), .val (.int p4), .val (.int p5), .val (.int p6), .unset] [(.int p6), (.int (0 : Int32))])) _
              refine XS.icmpYes X0.here hx rfl (pc0 := 19) (pc' := 26) rfl (hb hby d4_19) rfl (teq h5).1 (by decide) (by decide) ?_
              show Steps p.tables e below (s₁.setTop (mkF m 26 #[.val (.ref a1), .val (.int (0 : Int32)), .val (.int p3), .val (.int p4), .val (.int p5), .val (.int p6), .unset] [])) _
              refine XS.iconst X0.here hx rfl (hb hby d4_26) ?_
              exact k
            · rw [show (if (0 : Int32) = p6 then (0 : Int32) else (1 : Int32)) = (1 : Int32) from if_neg h5] at k
              show Steps p.tables e below (s₁.setTop (mkF m 19 #[.val (.ref a1), .val (.int (0 : Int32)), .val (.int p3), .val (.int p4), .val (.int p5), .val (.int p6), .unset] [(.int p6), (.int (0 : Int32))])) _
              refine XS.icmpNo X0.here hx rfl (hb hby d4_19) rfl (feq h5).1 ?_
              show Steps p.tables e below (s₁.setTop (mkF m 22 #[.val (.ref a1), .val (.int (0 : Int32)), .val (.int p3), .val (.int p4), .val (.int p5), .val (.int p6), .unset] [])) _
              refine XS.iconst X0.here hx rfl (hb hby d4_22) ?_
              show Steps p.tables e below (s₁.setTop (mkF m 23 #[.val (.ref a1), .val (.int (0 : Int32)), .val (.int p3), .val (.int p4), .val (.int p5), .val (.int p6), .unset] [(.int (1 : Int32))])) _
              refine XS.goto X0.here hx rfl (pc0 := 23) (pc' := 27) rfl (hb hby d4_23) (by decide) (by decide) ?_
              exact k
          rw [show (fex0_1 p3 p4 p5 p6 r0 r1 r2 r3) = (if (0 : Int32) = p6 then (0 : Int32) else (1 : Int32)) from if_pos h4] at k
          show Steps p.tables e below (s₁.setTop (mkF m 7 #[.val (.ref a1), .val (.int (0 : Int32)), .val (.int p3), .val (.int p4), .val (.int p5), .val (.int p6), .unset] [(.int p4), (.int (0 : Int32))])) _
          refine XS.icmpYes X0.here hx rfl (pc0 := 7) (pc' := 16) rfl (hb hby d4_7) rfl (teq h4).1 (by decide) (by decide) ?_
          show Steps p.tables e below (s₁.setTop (mkF m 16 #[.val (.ref a1), .val (.int (0 : Int32)), .val (.int p3), .val (.int p4), .val (.int p5), .val (.int p6), .unset] [])) _
          refine XS.iloadN X0.here hx rfl (hb hby d4_16) rfl ?_
          show Steps p.tables e below (s₁.setTop (mkF m 17 #[.val (.ref a1), .val (.int (0 : Int32)), .val (.int p3), .val (.int p4), .val (.int p5), .val (.int p6), .unset] [(.int (0 : Int32))])) _
          refine XS.iload X0.here hx rfl (hb hby d4_17) rfl ?_
          show Steps p.tables e below (s₁.setTop (mkF m 19 #[.val (.ref a1), .val (.int (0 : Int32)), .val (.int p3), .val (.int p4), .val (.int p5), .val (.int p6), .unset] [(.int p6), (.int (0 : Int32))])) _
          refine st6 _ ?_
          exact k
        · have st10 : ∀ t, Steps p.tables e below (s₁.setTop (mkF m 27 #[.val (.ref a1), .val (.int (0 : Int32)), .val (.int p3), .val (.int p4), .val (.int p5), .val (.int p6), .unset] [(.int (fex0_0 p3 p4 p5 p6 r0 r1 r2 r3))])) t → Steps p.tables e below (s₁.setTop (mkF m 13 #[.val (.ref a1), .val (.int (0 : Int32)), .val (.int p3), .val (.int p4), .val (.int p5), .val (.int p6), .unset] [(.int p5), (.int (0 : Int32))])) t := by
            intro t k
            by_cases h7 : (0 : Int32) = p5
            · have st9 : ∀ t, Steps p.tables e below (s₁.setTop (mkF m 27 #[.val (.ref a1), .val (.int (0 : Int32)), .val (.int p3), .val (.int p4), .val (.int p5), .val (.int p6), .unset] [(.int (if (0 : Int32) = p6 then (0 : Int32) else (1 : Int32)))])) t → Steps p.tables e below (s₁.setTop (mkF m 19 #[.val (.ref a1), .val (.int (0 : Int32)), .val (.int p3), .val (.int p4), .val (.int p5), .val (.int p6), .unset] [(.int p6), (.int (0 : Int32))])) t := by
                intro t k
                by_cases h8 : (0 : Int32) = p6
                · rw [show (if (0 : Int32) = p6 then (0 : Int32) else (1 : Int32)) = (0 : Int32) from if_pos h8] at k
                  show Steps p.tables e below (s₁.setTop (mkF m 19 #[.val (.ref a1), .val (.int (0 : Int32)), .val (.int p3), .val (.int p4), .val (.int p5), .val (.int p6), .unset] [(.int p6), (.int (0 : Int32))])) _
                  refine XS.icmpYes X0.here hx rfl (pc0 := 19) (pc' := 26) rfl (hb hby d4_19) rfl (teq h8).1 (by decide) (by decide) ?_
                  show Steps p.tables e below (s₁.setTop (mkF m 26 #[.val (.ref a1), .val (.int (0 : Int32)), .val (.int p3), .val (.int p4), .val (.int p5), .val (.int p6), .unset] [])) _
                  refine XS.iconst X0.here hx rfl (hb hby d4_26) ?_
                  exact k
                · rw [show (if (0 : Int32) = p6 then (0 : Int32) else (1 : Int32)) = (1 : Int32) from if_neg h8] at k
                  show Steps p.tables e below (s₁.setTop (mkF m 19 #[.val (.ref a1), .val (.int (0 : Int32)), .val (.int p3), .val (.int p4), .val (.int p5), .val (.int p6), .unset] [(.int p6), (.int (0 : Int32))])) _
                  refine XS.icmpNo X0.here hx rfl (hb hby d4_19) rfl (feq h8).1 ?_
                  show Steps p.tables e below (s₁.setTop (mkF m 22 #[.val (.ref a1), .val (.int (0 : Int32)), .val (.int p3), .val (.int p4), .val (.int p5), .val (.int p6), .unset] [])) _
                  refine XS.iconst X0.here hx rfl (hb hby d4_22) ?_
                  show Steps p.tables e below (s₁.setTop (mkF m 23 #[.val (.ref a1), .val (.int (0 : Int32)), .val (.int p3), .val (.int p4), .val (.int p5), .val (.int p6), .unset] [(.int (1 : Int32))])) _
                  refine XS.goto X0.here hx rfl (pc0 := 23) (pc' := 27) rfl (hb hby d4_23) (by decide) (by decide) ?_
                  exact k
              rw [show (fex0_0 p3 p4 p5 p6 r0 r1 r2 r3) = (if (0 : Int32) = p6 then (0 : Int32) else (1 : Int32)) from if_pos h7] at k
              show Steps p.tables e below (s₁.setTop (mkF m 13 #[.val (.ref a1), .val (.int (0 : Int32)), .val (.int p3), .val (.int p4), .val (.int p5), .val (.int p6), .unset] [(.int p5), (.int (0 : Int32))])) _
              refine XS.icmpNo X0.here hx rfl (hb hby d4_13) rfl (teq h7).2 ?_
              show Steps p.tables e below (s₁.setTop (mkF m 16 #[.val (.ref a1), .val (.int (0 : Int32)), .val (.int p3), .val (.int p4), .val (.int p5), .val (.int p6), .unset] [])) _
              refine XS.iloadN X0.here hx rfl (hb hby d4_16) rfl ?_
              show Steps p.tables e below (s₁.setTop (mkF m 17 #[.val (.ref a1), .val (.int (0 : Int32)), .val (.int p3), .val (.int p4), .val (.int p5), .val (.int p6), .unset] [(.int (0 : Int32))])) _
              refine XS.iload X0.here hx rfl (hb hby d4_17) rfl ?_
              show Steps p.tables e below (s₁.setTop (mkF m 19 #[.val (.ref a1), .val (.int (0 : Int32)), .val (.int p3), .val (.int p4), .val (.int p5), .val (.int p6), .unset] [(.int p6), (.int (0 : Int32))])) _
              refine st9 _ ?_
              exact k
            · rw [show (fex0_0 p3 p4 p5 p6 r0 r1 r2 r3) = (0 : Int32) from if_neg h7] at k
              show Steps p.tables e below (s₁.setTop (mkF m 13 #[.val (.ref a1), .val (.int (0 : Int32)), .val (.int p3), .val (.int p4), .val (.int p5), .val (.int p6), .unset] [(.int p5), (.int (0 : Int32))])) _
              refine XS.icmpYes X0.here hx rfl (pc0 := 13) (pc' := 26) rfl (hb hby d4_13) rfl (feq h7).2 (by decide) (by decide) ?_
              show Steps p.tables e below (s₁.setTop (mkF m 26 #[.val (.ref a1), .val (.int (0 : Int32)), .val (.int p3), .val (.int p4), .val (.int p5), .val (.int p6), .unset] [])) _
              refine XS.iconst X0.here hx rfl (hb hby d4_26) ?_
              exact k
          rw [show (fex0_1 p3 p4 p5 p6 r0 r1 r2 r3) = (fex0_0 p3 p4 p5 p6 r0 r1 r2 r3) from if_neg h4] at k
          show Steps p.tables e below (s₁.setTop (mkF m 7 #[.val (.ref a1), .val (.int (0 : Int32)), .val (.int p3), .val (.int p4), .val (.int p5), .val (.int p6), .unset] [(.int p4), (.int (0 : Int32))])) _
          refine XS.icmpNo X0.here hx rfl (hb hby d4_7) rfl (feq h4).1 ?_
          show Steps p.tables e below (s₁.setTop (mkF m 10 #[.val (.ref a1), .val (.int (0 : Int32)), .val (.int p3), .val (.int p4), .val (.int p5), .val (.int p6), .unset] [])) _
          refine XS.iloadN X0.here hx rfl (hb hby d4_10) rfl ?_
          show Steps p.tables e below (s₁.setTop (mkF m 11 #[.val (.ref a1), .val (.int (0 : Int32)), .val (.int p3), .val (.int p4), .val (.int p5), .val (.int p6), .unset] [(.int (0 : Int32))])) _
          refine XS.iload X0.here hx rfl (hb hby d4_11) rfl ?_
          show Steps p.tables e below (s₁.setTop (mkF m 13 #[.val (.ref a1), .val (.int (0 : Int32)), .val (.int p3), .val (.int p4), .val (.int p5), .val (.int p6), .unset] [(.int p5), (.int (0 : Int32))])) _
          refine st10 _ ?_
          exact k
      rw [show (fex0_2 p3 p4 p5 p6 r0 r1 r2 r3) = (fex0_1 p3 p4 p5 p6 r0 r1 r2 r3) from if_neg h1] at k
      show Steps p.tables e below (s₁.setTop (mkF m 2 #[.val (.ref a1), .val (.int (0 : Int32)), .val (.int p3), .val (.int p4), .val (.int p5), .val (.int p6), .unset] [(.int p3), (.int (0 : Int32))])) _
      refine XS.icmpNo X0.here hx rfl (hb hby d4_2) rfl (feq h1).1 ?_
      show Steps p.tables e below (s₁.setTop (mkF m 5 #[.val (.ref a1), .val (.int (0 : Int32)), .val (.int p3), .val (.int p4), .val (.int p5), .val (.int p6), .unset] [])) _
      refine XS.iloadN X0.here hx rfl (hb hby d4_5) rfl ?_
      show Steps p.tables e below (s₁.setTop (mkF m 6 #[.val (.ref a1), .val (.int (0 : Int32)), .val (.int p3), .val (.int p4), .val (.int p5), .val (.int p6), .unset] [(.int (0 : Int32))])) _
      refine XS.iloadN X0.here hx rfl (hb hby d4_6) rfl ?_
      show Steps p.tables e below (s₁.setTop (mkF m 7 #[.val (.ref a1), .val (.int (0 : Int32)), .val (.int p3), .val (.int p4), .val (.int p5), .val (.int p6), .unset] [(.int p4), (.int (0 : Int32))])) _
      refine st11 _ ?_
      exact k
  have st15 : ∀ t, Steps p.tables e below (s₁.setTop (mkF m 42 #[.val (.ref a1), .val (.int (0 : Int32)), .val (.int p3), .val (.int p4), .val (.int p5), .val (.int p6), .val (.int (fex0_2 p3 p4 p5 p6 r0 r1 r2 r3))] [(.int (fex0_3 p3 p4 p5 p6 r0 r1 r2 r3))])) t → Steps p.tables e below (s₁.setTop (mkF m 31 #[.val (.ref a1), .val (.int (0 : Int32)), .val (.int p3), .val (.int p4), .val (.int p5), .val (.int p6), .val (.int (fex0_2 p3 p4 p5 p6 r0 r1 r2 r3))] [(.int (fex0_2 p3 p4 p5 p6 r0 r1 r2 r3))])) t := by
    intro t k
    by_cases h13 : (fex0_2 p3 p4 p5 p6 r0 r1 r2 r3) = (0 : Int32)
    · obtain ⟨cl14, Ar14, -, S14, M14, H14, -⟩ := id A_a1
      have hin14 := inb_of (j := (0 : Int32)) S14 (by decide)
      have hat14 := H14.at hin14 (v := (.int r0)) (rfl)
      rw [show (fex0_3 p3 p4 p5 p6 r0 r1 r2 r3) = r0 from if_pos h13] at k
      show Steps p.tables e below (s₁.setTop (mkF m 31 #[.val (.ref a1), .val (.int (0 : Int32)), .val (.int p3), .val (.int p4), .val (.int p5), .val (.int p6), .val (.int (fex0_2 p3 p4 p5 p6 r0 r1 r2 r3))] [(.int (fex0_2 p3 p4 p5 p6 r0 r1 r2 r3))])) _
      refine XS.ifYes X0.here hx rfl (pc0 := 31) (pc' := 39) rfl (hb hby d4_31) rfl ((if0 _ _).trans (teq h13).1) (by decide) (by decide) ?_
      show Steps p.tables e below (s₁.setTop (mkF m 39 #[.val (.ref a1), .val (.int (0 : Int32)), .val (.int p3), .val (.int p4), .val (.int p5), .val (.int p6), .val (.int (fex0_2 p3 p4 p5 p6 r0 r1 r2 r3))] [])) _
      refine XS.aloadN X0.here hx rfl (hb hby d4_39) rfl rfl ?_
      show Steps p.tables e below (s₁.setTop (mkF m 40 #[.val (.ref a1), .val (.int (0 : Int32)), .val (.int p3), .val (.int p4), .val (.int p5), .val (.int p6), .val (.int (fex0_2 p3 p4 p5 p6 r0 r1 r2 r3))] [(.ref a1)])) _
      refine XS.iloadN X0.here hx rfl (hb hby d4_40) rfl ?_
      show Steps p.tables e below (s₁.setTop (mkF m 41 #[.val (.ref a1), .val (.int (0 : Int32)), .val (.int p3), .val (.int p4), .val (.int p5), .val (.int p6), .val (.int (fex0_2 p3 p4 p5 p6 r0 r1 r2 r3))] [(.int (0 : Int32)), (.ref a1)])) _
      refine X0.iaload hx (j := (0 : Int32)) (v := (.int r0)) (by rw [e0]; exact Ar14.1) (State.isArrayOf_alike hZ.alike Ar14.2.1) Ar14.2.2 hin14 hat14 (g := (mkF m 41 #[.val (.ref a1), .val (.int (0 : Int32)), .val (.int p3), .val (.int p4), .val (.int p5), .val (.int p6), .val (.int (fex0_2 p3 p4 p5 p6 r0 r1 r2 r3))] [(.int (0 : Int32)), (.ref a1)])) rfl rfl (hb hby d4_41) _ ?_
      exact k
    · rw [show (fex0_3 p3 p4 p5 p6 r0 r1 r2 r3) = p6 from if_neg h13] at k
      show Steps p.tables e below (s₁.setTop (mkF m 31 #[.val (.ref a1), .val (.int (0 : Int32)), .val (.int p3), .val (.int p4), .val (.int p5), .val (.int p6), .val (.int (fex0_2 p3 p4 p5 p6 r0 r1 r2 r3))] [(.int (fex0_2 p3 p4 p5 p6 r0 r1 r2 r3))])) _
      refine XS.ifNo X0.here hx rfl (hb hby d4_31) rfl ((if0 _ _).trans (feq h13).1) ?_
      show Steps p.tables e below (s₁.setTop (mkF m 34 #[.val (.ref a1), .val (.int (0 : Int32)), .val (.int p3), .val (.int p4), .val (.int p5), .val (.int p6), .val (.int (fex0_2 p3 p4 p5 p6 r0 r1 r2 r3))] [])) _
      refine XS.iload X0.here hx rfl (hb hby d4_34) rfl ?_
      show Steps p.tables e below (s₁.setTop (mkF m 36 #[.val (.ref a1), .val (.int (0 : Int32)), .val (.int p3), .val (.int p4), .val (.int p5), .val (.int p6), .val (.int (fex0_2 p3 p4 p5 p6 r0 r1 r2 r3))] [(.int p6)])) _
      refine XS.goto X0.here hx rfl (pc0 := 36) (pc' := 42) rfl (hb hby d4_36) (by decide) (by decide) ?_
      exact k
  obtain ⟨fs, hr, hrun, hended, hW, hsame⟩ := X0.leave (v := some (.int (fex0_3 p3 p4 p5 p6 r0 r1 r2 r3))) (fun h => by rw [Bd.returns] at h; cases h)
  refine ⟨_, _, ?_, hrun, hended, _, _, rfl, ?_, ⟨_, rfl⟩, hW, hsame.mono (by decide) (by decide)⟩
  · show Steps p.tables e below (s₁.setTop (mkF m 0 #[.val (.ref a1), .val (.int (0 : Int32)), .val (.int p3), .val (.int p4), .val (.int p5), .val (.int p6), .unset] [])) _
    refine XS.iloadN X0.here hx rfl (hb hby d4_0) rfl ?_
    show Steps p.tables e below (s₁.setTop (mkF m 1 #[.val (.ref a1), .val (.int (0 : Int32)), .val (.int p3), .val (.int p4), .val (.int p5), .val (.int p6), .unset] [(.int (0 : Int32))])) _
    refine XS.iloadN X0.here hx rfl (hb hby d4_1) rfl ?_
    show Steps p.tables e below (s₁.setTop (mkF m 2 #[.val (.ref a1), .val (.int (0 : Int32)), .val (.int p3), .val (.int p4), .val (.int p5), .val (.int p6), .unset] [(.int p3), (.int (0 : Int32))])) _
    refine st12 _ ?_
    show Steps p.tables e below (s₁.setTop (mkF m 27 #[.val (.ref a1), .val (.int (0 : Int32)), .val (.int p3), .val (.int p4), .val (.int p5), .val (.int p6), .unset] [(.int (fex0_2 p3 p4 p5 p6 r0 r1 r2 r3))])) _
    refine XS.istore X0.here hx rfl (hb hby d4_27) rfl (l' := #[.val (.ref a1), .val (.int (0 : Int32)), .val (.int p3), .val (.int p4), .val (.int p5), .val (.int p6), .val (.int (fex0_2 p3 p4 p5 p6 r0 r1 r2 r3))]) rfl ?_
    show Steps p.tables e below (s₁.setTop (mkF m 29 #[.val (.ref a1), .val (.int (0 : Int32)), .val (.int p3), .val (.int p4), .val (.int p5), .val (.int p6), .val (.int (fex0_2 p3 p4 p5 p6 r0 r1 r2 r3))] [])) _
    refine XS.iload X0.here hx rfl (hb hby d4_29) rfl ?_
    show Steps p.tables e below (s₁.setTop (mkF m 31 #[.val (.ref a1), .val (.int (0 : Int32)), .val (.int p3), .val (.int p4), .val (.int p5), .val (.int p6), .val (.int (fex0_2 p3 p4 p5 p6 r0 r1 r2 r3))] [(.int (fex0_2 p3 p4 p5 p6 r0 r1 r2 r3))])) _
    refine st15 _ ?_
    show Steps p.tables e below (s₁.setTop (mkF m 42 #[.val (.ref a1), .val (.int (0 : Int32)), .val (.int p3), .val (.int p4), .val (.int p5), .val (.int p6), .val (.int (fex0_2 p3 p4 p5 p6 r0 r1 r2 r3))] [(.int (fex0_3 p3 p4 p5 p6 r0 r1 r2 r3))])) _
    exact retI X0 hx Bd.returns (hb hby d4_42) hr
  · show Qex0 Z a1 p3 p4 p5 p6 k1 r0 r1 r2 r3 h0 n0 _ s₁.heap _
    rw [e0]
    have hf : fex0 p3 p4 p5 p6 r0 r1 r2 r3 = (fex0_3 p3 p4 p5 p6 r0 r1 r2 r3) := rfl
    exact ⟨by rw [hf], N0, rfl⟩
theorem pn_ex1 : plainName "com/example/bonn/bonn/ValueGroupsRootPinLaw" = true := by first | (simp [plainName, overriddenIn]; done) | decide +kernel
theorem ef_ex1 (m : MethodId) (a1 : Addr) (p3 : Int32) (p4 : Int32) (p5 : Int32) (p6 : Int32) : entryFrame m #[(.ref a1), (.int (1 : Int32)), (.int p3), (.int p4), (.int p5), (.int p6)] 7 = mkF m 0 #[.val (.ref a1), .val (.int (1 : Int32)), .val (.int p3), .val (.int p4), .val (.int p5), .val (.int p6), .unset] [] := by first | (simp [entryFrame, mkF, argsToLocals, Value.category]; done) | rfl
def Qex1 (Z : State) (a1 : Addr) (p3 : Int32) (p4 : Int32) (p5 : Int32) (p6 : Int32) (k1 : ClassId) (r0 : Int32) (r1 : Int32) (r2 : Int32) (r3 : Int32) (h0 : Heap) (n0 : Nat) (v : Option Value) (h : Heap) (L : List Loc) : Prop := v = some (.int (fex1 p3 p4 p5 p6 r0 r1 r2 r3)) ∧ Fr n0 L ∧ h = h0
set_option maxRecDepth 65536 in
set_option maxHeartbeats 40000000 in
theorem rmex1 (l : Launch) (Z : State) (a0 : Array Value) (hw : ∀ d ∈ tables_1, d.before a0 Z = true) (ws : List Jvm.Cond) (a1 : Addr) (p3 : Int32) (p4 : Int32) (p5 : Int32) (p6 : Int32) (k1 : ClassId) (r0 : Int32) (r1 : Int32) (r2 : Int32) (r3 : Int32) (h0 : Heap) (n0 : Nat) (Z0 : n0 ≤ h0.size) (A_a1 : Arv Z h0 a1 k1 .int (4 : Int32) [(.int r0), (.int r1), (.int r2), (.int r3)] (.int (0 : Int32))) :
    MetFree l (⟨"com/example/bonn/bonn/ValueGroupsRootPinLaw", "expected", "([IIIIII)I"⟩ : MethodName) (head1 (Jvm.Cond.code (⟨"com/example/bonn/bonn/ValueGroupsRootPinLaw", "expected", "([IIIIII)I"⟩ : MethodName) method_3_code 7 (some .int) :: ws) ({ frames := 0, cells := 0, slots := 0, locals := 0 } : Room)) (fun a U => a = #[(.ref a1), (.int (1 : Int32)), (.int p3), (.int p4), (.int p5), (.int p6)] ∧ Z.Warmed39 U.vm ∧ U.heap = h0) (fun _ _ _ _ _ => True) (fun _ U o U' => ∃ v L, o = .returned v ∧ Qex1 Z a1 p3 p4 p5 p6 k1 r0 r1 r2 r3 h0 n0 v U'.heap L ∧ FrameEnd U o U' L ({ frames := 0, cells := 0, slots := 0, locals := 0 } : Room).cells ({ frames := 0, cells := 0, slots := 0, locals := 0 } : Room).slots) := by
  refine MetFree.of_bodySF (plainFor_of_name pn_ex1) hisR ?_
  intro p e s m args below meth c s₁ Bd hml0 hP hK
  obtain ⟨rfl, hZ, hh⟩ := hP
  have hx := Bd.exec
  have hby := Bd.bytes
  have hml : c.maxLocals = 7 := hml0
  have hown : s.vm.findClass "com/example/bonn/bonn/ValueGroupsRootPinLaw" = some m.cls := findClass_of_methodNamed Bd.named
  have hnm := (name_of_methodNamed Bd.named Bd.method).1
  have X0 : Stand p l e ({ frames := 0, cells := 0, slots := 0, locals := 0 } : Room) s m #[(.ref a1), (.int (1 : Int32)), (.int p3), (.int p4), (.int p5), (.int p6)] below meth c s₁ [] 0 0 := Stand.of_body Bd
  have e0 : s₁.heap = h0 := by rw [← hh, Bd.state]; rfl
  have N0 := Fr.nil n0
  have pre0 : ∀ t, Steps p.tables e below (s₁.setTop (mkF m 0 #[.val (.ref a1), .val (.int (1 : Int32)), .val (.int p3), .val (.int p4), .val (.int p5), .val (.int p6), .unset] [])) t → Steps p.tables e below (s₁.setTop (entryFrame m #[(.ref a1), (.int (1 : Int32)), (.int p3), (.int p4), (.int p5), (.int p6)] 7)) t := fun t k => castTop (ef_ex1 m a1 p3 p4 p5 p6) k
  refine own_step (Q := fun o U' => ∃ v L, o = .returned v ∧ Qex1 Z a1 p3 p4 p5 p6 k1 r0 r1 r2 r3 h0 n0 v U'.heap L ∧ FrameEnd s o U' L ({ frames := 0, cells := 0, slots := 0, locals := 0 } : Room).cells ({ frames := 0, cells := 0, slots := 0, locals := 0 } : Room).slots) pre0 ?_
  have st12 : ∀ t, Steps p.tables e below (s₁.setTop (mkF m 27 #[.val (.ref a1), .val (.int (1 : Int32)), .val (.int p3), .val (.int p4), .val (.int p5), .val (.int p6), .unset] [(.int (fex1_2 p3 p4 p5 p6 r0 r1 r2 r3))])) t → Steps p.tables e below (s₁.setTop (mkF m 2 #[.val (.ref a1), .val (.int (1 : Int32)), .val (.int p3), .val (.int p4), .val (.int p5), .val (.int p6), .unset] [(.int p3), (.int (1 : Int32))])) t := by
    intro t k
    by_cases h1 : (1 : Int32) = p3
    · have st3 : ∀ t, Steps p.tables e below (s₁.setTop (mkF m 27 #[.val (.ref a1), .val (.int (1 : Int32)), .val (.int p3), .val (.int p4), .val (.int p5), .val (.int p6), .unset] [(.int (if (1 : Int32) = p6 then (0 : Int32) else (1 : Int32)))])) t → Steps p.tables e below (s₁.setTop (mkF m 19 #[.val (.ref a1), .val (.int (1 : Int32)), .val (.int p3), .val (.int p4), .val (.int p5), .val (.int p6), .unset] [(.int p6), (.int (1 : Int32))])) t := by
        intro t k
        by_cases h2 : (1 : Int32) = p6
        · rw [show (if (1 : Int32) = p6 then (0 : Int32) else (1 : Int32)) = (0 : Int32) from if_pos h2] at k
          show Steps p.tables e below (s₁.setTop (mkF m 19 #[.val (.ref a1), .val (.int (1 : Int32)), .val (.int p3), .val (.int p4), .val (.int p5), .val (.int p6), .unset] [(.int p6), (.int (1 : Int32))])) _
          refine XS.icmpYes X0.here hx rfl (pc0 := 19) (pc' := 26) rfl (hb hby d4_19) rfl (teq h2).1 (by decide) (by decide) ?_
          show Steps p.tables e below (s₁.setTop (mkF m 26 #[.val (.ref a1), .val (.int (1 : Int32)), .val (.int p3), .val (.int p4), .val (.int p5), .val (.int p6), .unset] [])) _
          refine XS.iconst X0.here hx rfl (hb hby d4_26) ?_
          exact k
        · rw [show (if (1 : Int32) = p6 then (0 : Int32) else (1 : Int32)) = (1 : Int32) from if_neg h2] at k
          show Steps p.tables e below (s₁.setTop (mkF m 19 #[.val (.ref a1), .val (.int (1 : Int32)), .val (.int p3), .val (.int p4), .val (.int p5), .val (.int p6), .unset] [(.int p6), (.int (1 : Int32))])) _
          refine XS.icmpNo X0.here hx rfl (hb hby d4_19) rfl (feq h2).1 ?_
          show Steps p.tables e below (s₁.setTop (mkF m 22 #[.val (.ref a1), .val (.int (1 : Int32)), .val (.int p3), .val (.int p4), .val (.int p5), .val (.int p6), .unset] [])) _
          refine XS.iconst X0.here hx rfl (hb hby d4_22) ?_
          show Steps p.tables e below (s₁.setTop (mkF m 23 #[.val (.ref a1), .val (.int (1 : Int32)), .val (.int p3), .val (.int p4), .val (.int p5), .val (.int p6), .unset] [(.int (1 : Int32))])) _
          refine XS.goto X0.here hx rfl (pc0 := 23) (pc' := 27) rfl (hb hby d4_23) (by decide) (by decide) ?_
          exact k
      rw [show (fex1_2 p3 p4 p5 p6 r0 r1 r2 r3) = (if (1 : Int32) = p6 then (0 : Int32) else (1 : Int32)) from if_pos h1] at k
      show Steps p.tables e below (s₁.setTop (mkF m 2 #[.val (.ref a1), .val (.int (1 : Int32)), .val (.int p3), .val (.int p4), .val (.int p5), .val (.int p6), .unset] [(.int p3), (.int (1 : Int32))])) _
      refine XS.icmpYes X0.here hx rfl (pc0 := 2) (pc' := 16) rfl (hb hby d4_2) rfl (teq h1).1 (by decide) (by decide) ?_
      show Steps p.tables e below (s₁.setTop (mkF m 16 #[.val (.ref a1), .val (.int (1 : Int32)), .val (.int p3), .val (.int p4), .val (.int p5), .val (.int p6), .unset] [])) _
      refine XS.iloadN X0.here hx rfl (hb hby d4_16) rfl ?_
      show Steps p.tables e below (s₁.setTop (mkF m 17 #[.val (.ref a1), .val (.int (1 : Int32)), .val (.int p3), .val (.int p4), .val (.int p5), .val (.int p6), .unset] [(.int (1 : Int32))])) _
      refine XS.iload X0.here hx rfl (hb hby d4_17) rfl ?_
      show Steps p.tables e below (s₁.setTop (mkF m 19 #[.val (.ref a1), .val (.int (1 : Int32)), .val (.int p3), .val (.int p4), .val (.int p5), .val (.int p6), .unset] [(.int p6), (.int (1 : Int32))])) _
      refine st3 _ ?_
      exact k
    · have st11 : ∀ t, Steps p.tables e below (s₁.setTop (mkF m 27 #[.val (.ref a1), .val (.int (1 : Int32)), .val (.int p3), .val (.int p4), .val (.int p5), .val (.int p6), .unset] [(.int (fex1_1 p3 p4 p5 p6 r0 r1 r2 r3))])) t → Steps p.tables e below (s₁.setTop (mkF m 7 #[.val (.ref a1), .val (.int (1 : Int32)), .val (.int p3), .val (.int p4), .val (.int p5), .val (.int p6), .unset] [(.int p4), (.int (1 : Int32))])) t := by
        intro t k
        by_cases h4 : (1 : Int32) = p4
        · have st6 : ∀ t, Steps p.tables e below (s₁.setTop (mkF m 27 #[.val (.ref a1), .val (.int (1 : Int32)), .val (.int p3), .val (.int p4), .val (.int p5), .val (.int p6), .unset] [(.int (if (1 : Int32) = p6 then (0 : Int32) else (1 : Int32)))])) t → Steps p.tables e below (s₁.setTop (mkF m 19 #[.val (.ref a1), .val (.int (1 : Int32)), .val (.int p3), .val (.int p4), .val (.int p5), .val (.int p6), .unset] [(.int p6), (.int (1 : Int32))])) t := by
            intro t k
            by_cases h5 : (1 : Int32) = p6
            · rw [show (if (1 : Int32) = p6 then (0 : Int32) else (1 : Int32)) = (0 : Int32) from if_pos h5] at k
              show Steps p.tables e below (s₁.setTop (mkF m 19 #[.val (.ref a1), .val (.int (1 : Int32)), .val (.int p3), .val (.int p4), .val (.int p5), .val (.int p6), .unset] [(.int p6), (.int (1 : Int32))])) _
              refine XS.icmpYes X0.here hx rfl (pc0 := 19) (pc' := 26) rfl (hb hby d4_19) rfl (teq h5).1 (by decide) (by decide) ?_
              show Steps p.tables e below (s₁.setTop (mkF m 26 #[.val (.ref a1), .val (.int (1 : Int32)), .val (.int p3), .val (.int p4), .val (.int p5), .val (.int p6), .unset] [])) _
              refine XS.iconst X0.here hx rfl (hb hby d4_26) ?_
              exact k
            · rw [show (if (1 : Int32) = p6 then (0 : Int32) else (1 : Int32)) = (1 : Int32) from if_neg h5] at k
              show Steps p.tables e below (s₁.setTop (mkF m 19 #[.val (.ref a1), .val (.int (1 : Int32)), .val (.int p3), .val (.int p4), .val (.int p5), .val (.int p6), .unset] [(.int p6), (.int (1 : Int32))])) _
              refine XS.icmpNo X0.here hx rfl (hb hby d4_19) rfl (feq h5).1 ?_
              show Steps p.tables e below (s₁.setTop (mkF m 22 #[.val (.ref a1), .val (.int (1 : Int32)), .val (.int p3), .val (.int p4), .val (.int p5), .val (.int p6), .unset] [])) _
              refine XS.iconst X0.here hx rfl (hb hby d4_22) ?_
              show Steps p.tables e below (s₁.setTop (mkF m 23 #[.val (.ref a1), .val (.int (1 : Int32)), .val (.int p3), .val (.int p4), .val (.int p5), .val (.int p6), .unset] [(.int (1 : Int32))])) _
              refine XS.goto X0.here hx rfl (pc0 := 23) (pc' := 27) rfl (hb hby d4_23) (by decide) (by decide) ?_
              exact k
          rw [show (fex1_1 p3 p4 p5 p6 r0 r1 r2 r3) = (if (1 : Int32) = p6 then (0 : Int32) else (1 : Int32)) from if_pos h4] at k
          show Steps p.tables e below (s₁.setTop (mkF m 7 #[.val (.ref a1), .val (.int (1 : Int32)), .val (.int p3), .val (.int p4), .val (.int p5), .val (.int p6), .unset] [(.int p4), (.int (1 : Int32))])) _
          refine XS.icmpYes X0.here hx rfl (pc0 := 7) (pc' := 16) rfl (hb hby d4_7) rfl (teq h4).1 (by decide) (by decide) ?_
          show Steps p.tables e below (s₁.setTop (mkF m 16 #[.val (.ref a1), .val (.int (1 : Int32)), .val (.int p3), .val (.int p4), .val (.int p5), .val (.int p6), .unset] [])) _
          refine XS.iloadN X0.here hx rfl (hb hby d4_16) rfl ?_
          show Steps p.tables e below (s₁.setTop (mkF m 17 #[.val (.ref a1), .val (.int (1 : Int32)), .val (.int p3), .val (.int p4), .val (.int p5), .val (.int p6), .unset] [(.int (1 : Int32))])) _
          refine XS.iload X0.here hx rfl (hb hby d4_17) rfl ?_
          show Steps p.tables e below (s₁.setTop (mkF m 19 #[.val (.ref a1), .val (.int (1 : Int32)), .val (.int p3), .val (.int p4), .val (.int p5), .val (.int p6), .unset] [(.int p6), (.int (1 : Int32))])) _
          refine st6 _ ?_
          exact k
        · have st10 : ∀ t, Steps p.tables e below (s₁.setTop (mkF m 27 #[.val (.ref a1), .val (.int (1 : Int32)), .val (.int p3), .val (.int p4), .val (.int p5), .val (.int p6), .unset] [(.int (fex1_0 p3 p4 p5 p6 r0 r1 r2 r3))])) t → Steps p.tables e below (s₁.setTop (mkF m 13 #[.val (.ref a1), .val (.int (1 : Int32)), .val (.int p3), .val (.int p4), .val (.int p5), .val (.int p6), .unset] [(.int p5), (.int (1 : Int32))])) t := by
            intro t k
            by_cases h7 : (1 : Int32) = p5
            · have st9 : ∀ t, Steps p.tables e below (s₁.setTop (mkF m 27 #[.val (.ref a1), .val (.int (1 : Int32)), .val (.int p3), .val (.int p4), .val (.int p5), .val (.int p6), .unset] [(.int (if (1 : Int32) = p6 then (0 : Int32) else (1 : Int32)))])) t → Steps p.tables e below (s₁.setTop (mkF m 19 #[.val (.ref a1), .val (.int (1 : Int32)), .val (.int p3), .val (.int p4), .val (.int p5), .val (.int p6), .unset] [(.int p6), (.int (1 : Int32))])) t := by
                intro t k
                by_cases h8 : (1 : Int32) = p6
                · rw [show (if (1 : Int32) = p6 then (0 : Int32) else (1 : Int32)) = (0 : Int32) from if_pos h8] at k
                  show Steps p.tables e below (s₁.setTop (mkF m 19 #[.val (.ref a1), .val (.int (1 : Int32)), .val (.int p3), .val (.int p4), .val (.int p5), .val (.int p6), .unset] [(.int p6), (.int (1 : Int32))])) _
                  refine XS.icmpYes X0.here hx rfl (pc0 := 19) (pc' := 26) rfl (hb hby d4_19) rfl (teq h8).1 (by decide) (by decide) ?_
                  show Steps p.tables e below (s₁.setTop (mkF m 26 #[.val (.ref a1), .val (.int (1 : Int32)), .val (.int p3), .val (.int p4), .val (.int p5), .val (.int p6), .unset] [])) _
                  refine XS.iconst X0.here hx rfl (hb hby d4_26) ?_
                  exact k
                · rw [show (if (1 : Int32) = p6 then (0 : Int32) else (1 : Int32)) = (1 : Int32) from if_neg h8] at k
                  show Steps p.tables e below (s₁.setTop (mkF m 19 #[.val (.ref a1), .val (.int (1 : Int32)), .val (.int p3), .val (.int p4), .val (.int p5), .val (.int p6), .unset] [(.int p6), (.int (1 : Int32))])) _
                  refine XS.icmpNo X0.here hx rfl (hb hby d4_19) rfl (feq h8).1 ?_
                  show Steps p.tables e below (s₁.setTop (mkF m 22 #[.val (.ref a1), .val (.int (1 : Int32)), .val (.int p3), .val (.int p4), .val (.int p5), .val (.int p6), .unset] [])) _
                  refine XS.iconst X0.here hx rfl (hb hby d4_22) ?_
                  show Steps p.tables e below (s₁.setTop (mkF m 23 #[.val (.ref a1), .val (.int (1 : Int32)), .val (.int p3), .val (.int p4), .val (.int p5), .val (.int p6), .unset] [(.int (1 : Int32))])) _
                  refine XS.goto X0.here hx rfl (pc0 := 23) (pc' := 27) rfl (hb hby d4_23) (by decide) (by decide) ?_
                  exact k
              rw [show (fex1_0 p3 p4 p5 p6 r0 r1 r2 r3) = (if (1 : Int32) = p6 then (0 : Int32) else (1 : Int32)) from if_pos h7] at k
              show Steps p.tables e below (s₁.setTop (mkF m 13 #[.val (.ref a1), .val (.int (1 : Int32)), .val (.int p3), .val (.int p4), .val (.int p5), .val (.int p6), .unset] [(.int p5), (.int (1 : Int32))])) _
              refine XS.icmpNo X0.here hx rfl (hb hby d4_13) rfl (teq h7).2 ?_
              show Steps p.tables e below (s₁.setTop (mkF m 16 #[.val (.ref a1), .val (.int (1 : Int32)), .val (.int p3), .val (.int p4), .val (.int p5), .val (.int p6), .unset] [])) _
              refine XS.iloadN X0.here hx rfl (hb hby d4_16) rfl ?_
              show Steps p.tables e below (s₁.setTop (mkF m 17 #[.val (.ref a1), .val (.int (1 : Int32)), .val (.int p3), .val (.int p4), .val (.int p5), .val (.int p6), .unset] [(.int (1 : Int32))])) _
              refine XS.iload X0.here hx rfl (hb hby d4_17) rfl ?_
              show Steps p.tables e below (s₁.setTop (mkF m 19 #[.val (.ref a1), .val (.int (1 : Int32)), .val (.int p3), .val (.int p4), .val (.int p5), .val (.int p6), .unset] [(.int p6), (.int (1 : Int32))])) _
              refine st9 _ ?_
              exact k
            · rw [show (fex1_0 p3 p4 p5 p6 r0 r1 r2 r3) = (0 : Int32) from if_neg h7] at k
              show Steps p.tables e below (s₁.setTop (mkF m 13 #[.val (.ref a1), .val (.int (1 : Int32)), .val (.int p3), .val (.int p4), .val (.int p5), .val (.int p6), .unset] [(.int p5), (.int (1 : Int32))])) _
              refine XS.icmpYes X0.here hx rfl (pc0 := 13) (pc' := 26) rfl (hb hby d4_13) rfl (feq h7).2 (by decide) (by decide) ?_
              show Steps p.tables e below (s₁.setTop (mkF m 26 #[.val (.ref a1), .val (.int (1 : Int32)), .val (.int p3), .val (.int p4), .val (.int p5), .val (.int p6), .unset] [])) _
              refine XS.iconst X0.here hx rfl (hb hby d4_26) ?_
              exact k
          rw [show (fex1_1 p3 p4 p5 p6 r0 r1 r2 r3) = (fex1_0 p3 p4 p5 p6 r0 r1 r2 r3) from if_neg h4] at k
          show Steps p.tables e below (s₁.setTop (mkF m 7 #[.val (.ref a1), .val (.int (1 : Int32)), .val (.int p3), .val (.int p4), .val (.int p5), .val (.int p6), .unset] [(.int p4), (.int (1 : Int32))])) _
          refine XS.icmpNo X0.here hx rfl (hb hby d4_7) rfl (feq h4).1 ?_
          show Steps p.tables e below (s₁.setTop (mkF m 10 #[.val (.ref a1), .val (.int (1 : Int32)), .val (.int p3), .val (.int p4), .val (.int p5), .val (.int p6), .unset] [])) _
          refine XS.iloadN X0.here hx rfl (hb hby d4_10) rfl ?_
          show Steps p.tables e below (s₁.setTop (mkF m 11 #[.val (.ref a1), .val (.int (1 : Int32)), .val (.int p3), .val (.int p4), .val (.int p5), .val (.int p6), .unset] [(.int (1 : Int32))])) _
          refine XS.iload X0.here hx rfl (hb hby d4_11) rfl ?_
          show Steps p.tables e below (s₁.setTop (mkF m 13 #[.val (.ref a1), .val (.int (1 : Int32)), .val (.int p3), .val (.int p4), .val (.int p5), .val (.int p6), .unset] [(.int p5), (.int (1 : Int32))])) _
          refine st10 _ ?_
          exact k
      rw [show (fex1_2 p3 p4 p5 p6 r0 r1 r2 r3) = (fex1_1 p3 p4 p5 p6 r0 r1 r2 r3) from if_neg h1] at k
      show Steps p.tables e below (s₁.setTop (mkF m 2 #[.val (.ref a1), .val (.int (1 : Int32)), .val (.int p3), .val (.int p4), .val (.int p5), .val (.int p6), .unset] [(.int p3), (.int (1 : Int32))])) _
      refine XS.icmpNo X0.here hx rfl (hb hby d4_2) rfl (feq h1).1 ?_
      show Steps p.tables e below (s₁.setTop (mkF m 5 #[.val (.ref a1), .val (.int (1 : Int32)), .val (.int p3), .val (.int p4), .val (.int p5), .val (.int p6), .unset] [])) _
      refine XS.iloadN X0.here hx rfl (hb hby d4_5) rfl ?_
      show Steps p.tables e below (s₁.setTop (mkF m 6 #[.val (.ref a1), .val (.int (1 : Int32)), .val (.int p3), .val (.int p4), .val (.int p5), .val (.int p6), .unset] [(.int (1 : Int32))])) _
      refine XS.iloadN X0.here hx rfl (hb hby d4_6) rfl ?_
      show Steps p.tables e below (s₁.setTop (mkF m 7 #[.val (.ref a1), .val (.int (1 : Int32)), .val (.int p3), .val (.int p4), .val (.int p5), .val (.int p6), .unset] [(.int p4), (.int (1 : Int32))])) _
      refine st11 _ ?_
      exact k
  have st15 : ∀ t, Steps p.tables e below (s₁.setTop (mkF m 42 #[.val (.ref a1), .val (.int (1 : Int32)), .val (.int p3), .val (.int p4), .val (.int p5), .val (.int p6), .val (.int (fex1_2 p3 p4 p5 p6 r0 r1 r2 r3))] [(.int (fex1_3 p3 p4 p5 p6 r0 r1 r2 r3))])) t → Steps p.tables e below (s₁.setTop (mkF m 31 #[.val (.ref a1), .val (.int (1 : Int32)), .val (.int p3), .val (.int p4), .val (.int p5), .val (.int p6), .val (.int (fex1_2 p3 p4 p5 p6 r0 r1 r2 r3))] [(.int (fex1_2 p3 p4 p5 p6 r0 r1 r2 r3))])) t := by
    intro t k
    by_cases h13 : (fex1_2 p3 p4 p5 p6 r0 r1 r2 r3) = (0 : Int32)
    · obtain ⟨cl14, Ar14, -, S14, M14, H14, -⟩ := id A_a1
      have hin14 := inb_of (j := (1 : Int32)) S14 (by decide)
      have hat14 := H14.at hin14 (v := (.int r1)) (rfl)
      rw [show (fex1_3 p3 p4 p5 p6 r0 r1 r2 r3) = r1 from if_pos h13] at k
      show Steps p.tables e below (s₁.setTop (mkF m 31 #[.val (.ref a1), .val (.int (1 : Int32)), .val (.int p3), .val (.int p4), .val (.int p5), .val (.int p6), .val (.int (fex1_2 p3 p4 p5 p6 r0 r1 r2 r3))] [(.int (fex1_2 p3 p4 p5 p6 r0 r1 r2 r3))])) _
      refine XS.ifYes X0.here hx rfl (pc0 := 31) (pc' := 39) rfl (hb hby d4_31) rfl ((if0 _ _).trans (teq h13).1) (by decide) (by decide) ?_
      show Steps p.tables e below (s₁.setTop (mkF m 39 #[.val (.ref a1), .val (.int (1 : Int32)), .val (.int p3), .val (.int p4), .val (.int p5), .val (.int p6), .val (.int (fex1_2 p3 p4 p5 p6 r0 r1 r2 r3))] [])) _
      refine XS.aloadN X0.here hx rfl (hb hby d4_39) rfl rfl ?_
      show Steps p.tables e below (s₁.setTop (mkF m 40 #[.val (.ref a1), .val (.int (1 : Int32)), .val (.int p3), .val (.int p4), .val (.int p5), .val (.int p6), .val (.int (fex1_2 p3 p4 p5 p6 r0 r1 r2 r3))] [(.ref a1)])) _
      refine XS.iloadN X0.here hx rfl (hb hby d4_40) rfl ?_
      show Steps p.tables e below (s₁.setTop (mkF m 41 #[.val (.ref a1), .val (.int (1 : Int32)), .val (.int p3), .val (.int p4), .val (.int p5), .val (.int p6), .val (.int (fex1_2 p3 p4 p5 p6 r0 r1 r2 r3))] [(.int (1 : Int32)), (.ref a1)])) _
      refine X0.iaload hx (j := (1 : Int32)) (v := (.int r1)) (by rw [e0]; exact Ar14.1) (State.isArrayOf_alike hZ.alike Ar14.2.1) Ar14.2.2 hin14 hat14 (g := (mkF m 41 #[.val (.ref a1), .val (.int (1 : Int32)), .val (.int p3), .val (.int p4), .val (.int p5), .val (.int p6), .val (.int (fex1_2 p3 p4 p5 p6 r0 r1 r2 r3))] [(.int (1 : Int32)), (.ref a1)])) rfl rfl (hb hby d4_41) _ ?_
      exact k
    · rw [show (fex1_3 p3 p4 p5 p6 r0 r1 r2 r3) = p6 from if_neg h13] at k
      show Steps p.tables e below (s₁.setTop (mkF m 31 #[.val (.ref a1), .val (.int (1 : Int32)), .val (.int p3), .val (.int p4), .val (.int p5), .val (.int p6), .val (.int (fex1_2 p3 p4 p5 p6 r0 r1 r2 r3))] [(.int (fex1_2 p3 p4 p5 p6 r0 r1 r2 r3))])) _
      refine XS.ifNo X0.here hx rfl (hb hby d4_31) rfl ((if0 _ _).trans (feq h13).1) ?_
      show Steps p.tables e below (s₁.setTop (mkF m 34 #[.val (.ref a1), .val (.int (1 : Int32)), .val (.int p3), .val (.int p4), .val (.int p5), .val (.int p6), .val (.int (fex1_2 p3 p4 p5 p6 r0 r1 r2 r3))] [])) _
      refine XS.iload X0.here hx rfl (hb hby d4_34) rfl ?_
      show Steps p.tables e below (s₁.setTop (mkF m 36 #[.val (.ref a1), .val (.int (1 : Int32)), .val (.int p3), .val (.int p4), .val (.int p5), .val (.int p6), .val (.int (fex1_2 p3 p4 p5 p6 r0 r1 r2 r3))] [(.int p6)])) _
      refine XS.goto X0.here hx rfl (pc0 := 36) (pc' := 42) rfl (hb hby d4_36) (by decide) (by decide) ?_
      exact k
  obtain ⟨fs, hr, hrun, hended, hW, hsame⟩ := X0.leave (v := some (.int (fex1_3 p3 p4 p5 p6 r0 r1 r2 r3))) (fun h => by rw [Bd.returns] at h; cases h)
  refine ⟨_, _, ?_, hrun, hended, _, _, rfl, ?_, ⟨_, rfl⟩, hW, hsame.mono (by decide) (by decide)⟩
  · show Steps p.tables e below (s₁.setTop (mkF m 0 #[.val (.ref a1), .val (.int (1 : Int32)), .val (.int p3), .val (.int p4), .val (.int p5), .val (.int p6), .unset] [])) _
    refine XS.iloadN X0.here hx rfl (hb hby d4_0) rfl ?_
    show Steps p.tables e below (s₁.setTop (mkF m 1 #[.val (.ref a1), .val (.int (1 : Int32)), .val (.int p3), .val (.int p4), .val (.int p5), .val (.int p6), .unset] [(.int (1 : Int32))])) _
    refine XS.iloadN X0.here hx rfl (hb hby d4_1) rfl ?_
    show Steps p.tables e below (s₁.setTop (mkF m 2 #[.val (.ref a1), .val (.int (1 : Int32)), .val (.int p3), .val (.int p4), .val (.int p5), .val (.int p6), .unset] [(.int p3), (.int (1 : Int32))])) _
    refine st12 _ ?_
    show Steps p.tables e below (s₁.setTop (mkF m 27 #[.val (.ref a1), .val (.int (1 : Int32)), .val (.int p3), .val (.int p4), .val (.int p5), .val (.int p6), .unset] [(.int (fex1_2 p3 p4 p5 p6 r0 r1 r2 r3))])) _
    refine XS.istore X0.here hx rfl (hb hby d4_27) rfl (l' := #[.val (.ref a1), .val (.int (1 : Int32)), .val (.int p3), .val (.int p4), .val (.int p5), .val (.int p6), .val (.int (fex1_2 p3 p4 p5 p6 r0 r1 r2 r3))]) rfl ?_
    show Steps p.tables e below (s₁.setTop (mkF m 29 #[.val (.ref a1), .val (.int (1 : Int32)), .val (.int p3), .val (.int p4), .val (.int p5), .val (.int p6), .val (.int (fex1_2 p3 p4 p5 p6 r0 r1 r2 r3))] [])) _
    refine XS.iload X0.here hx rfl (hb hby d4_29) rfl ?_
    show Steps p.tables e below (s₁.setTop (mkF m 31 #[.val (.ref a1), .val (.int (1 : Int32)), .val (.int p3), .val (.int p4), .val (.int p5), .val (.int p6), .val (.int (fex1_2 p3 p4 p5 p6 r0 r1 r2 r3))] [(.int (fex1_2 p3 p4 p5 p6 r0 r1 r2 r3))])) _
    refine st15 _ ?_
    show Steps p.tables e below (s₁.setTop (mkF m 42 #[.val (.ref a1), .val (.int (1 : Int32)), .val (.int p3), .val (.int p4), .val (.int p5), .val (.int p6), .val (.int (fex1_2 p3 p4 p5 p6 r0 r1 r2 r3))] [(.int (fex1_3 p3 p4 p5 p6 r0 r1 r2 r3))])) _
    exact retI X0 hx Bd.returns (hb hby d4_42) hr
  · show Qex1 Z a1 p3 p4 p5 p6 k1 r0 r1 r2 r3 h0 n0 _ s₁.heap _
    rw [e0]
    have hf : fex1 p3 p4 p5 p6 r0 r1 r2 r3 = (fex1_3 p3 p4 p5 p6 r0 r1 r2 r3) := rfl
    exact ⟨by rw [hf], N0, rfl⟩
theorem pn_ex2 : plainName "com/example/bonn/bonn/ValueGroupsRootPinLaw" = true := by first | (simp [plainName, overriddenIn]; done) | decide +kernel
theorem ef_ex2 (m : MethodId) (a1 : Addr) (p3 : Int32) (p4 : Int32) (p5 : Int32) (p6 : Int32) : entryFrame m #[(.ref a1), (.int (2 : Int32)), (.int p3), (.int p4), (.int p5), (.int p6)] 7 = mkF m 0 #[.val (.ref a1), .val (.int (2 : Int32)), .val (.int p3), .val (.int p4), .val (.int p5), .val (.int p6), .unset] [] := by first | (simp [entryFrame, mkF, argsToLocals, Value.category]; done) | rfl
def Qex2 (Z : State) (a1 : Addr) (p3 : Int32) (p4 : Int32) (p5 : Int32) (p6 : Int32) (k1 : ClassId) (r0 : Int32) (r1 : Int32) (r2 : Int32) (r3 : Int32) (h0 : Heap) (n0 : Nat) (v : Option Value) (h : Heap) (L : List Loc) : Prop := v = some (.int (fex2 p3 p4 p5 p6 r0 r1 r2 r3)) ∧ Fr n0 L ∧ h = h0
set_option maxRecDepth 65536 in
set_option maxHeartbeats 40000000 in
theorem rmex2 (l : Launch) (Z : State) (a0 : Array Value) (hw : ∀ d ∈ tables_1, d.before a0 Z = true) (ws : List Jvm.Cond) (a1 : Addr) (p3 : Int32) (p4 : Int32) (p5 : Int32) (p6 : Int32) (k1 : ClassId) (r0 : Int32) (r1 : Int32) (r2 : Int32) (r3 : Int32) (h0 : Heap) (n0 : Nat) (Z0 : n0 ≤ h0.size) (A_a1 : Arv Z h0 a1 k1 .int (4 : Int32) [(.int r0), (.int r1), (.int r2), (.int r3)] (.int (0 : Int32))) :
    MetFree l (⟨"com/example/bonn/bonn/ValueGroupsRootPinLaw", "expected", "([IIIIII)I"⟩ : MethodName) (head1 (Jvm.Cond.code (⟨"com/example/bonn/bonn/ValueGroupsRootPinLaw", "expected", "([IIIIII)I"⟩ : MethodName) method_3_code 7 (some .int) :: ws) ({ frames := 0, cells := 0, slots := 0, locals := 0 } : Room)) (fun a U => a = #[(.ref a1), (.int (2 : Int32)), (.int p3), (.int p4), (.int p5), (.int p6)] ∧ Z.Warmed39 U.vm ∧ U.heap = h0) (fun _ _ _ _ _ => True) (fun _ U o U' => ∃ v L, o = .returned v ∧ Qex2 Z a1 p3 p4 p5 p6 k1 r0 r1 r2 r3 h0 n0 v U'.heap L ∧ FrameEnd U o U' L ({ frames := 0, cells := 0, slots := 0, locals := 0 } : Room).cells ({ frames := 0, cells := 0, slots := 0, locals := 0 } : Room).slots) := by
  refine MetFree.of_bodySF (plainFor_of_name pn_ex2) hisR ?_
  intro p e s m args below meth c s₁ Bd hml0 hP hK
  obtain ⟨rfl, hZ, hh⟩ := hP
  have hx := Bd.exec
  have hby := Bd.bytes
  have hml : c.maxLocals = 7 := hml0
  have hown : s.vm.findClass "com/example/bonn/bonn/ValueGroupsRootPinLaw" = some m.cls := findClass_of_methodNamed Bd.named
  have hnm := (name_of_methodNamed Bd.named Bd.method).1
  have X0 : Stand p l e ({ frames := 0, cells := 0, slots := 0, locals := 0 } : Room) s m #[(.ref a1), (.int (2 : Int32)), (.int p3), (.int p4), (.int p5), (.int p6)] below meth c s₁ [] 0 0 := Stand.of_body Bd
  have e0 : s₁.heap = h0 := by rw [← hh, Bd.state]; rfl
  have N0 := Fr.nil n0
  have pre0 : ∀ t, Steps p.tables e below (s₁.setTop (mkF m 0 #[.val (.ref a1), .val (.int (2 : Int32)), .val (.int p3), .val (.int p4), .val (.int p5), .val (.int p6), .unset] [])) t → Steps p.tables e below (s₁.setTop (entryFrame m #[(.ref a1), (.int (2 : Int32)), (.int p3), (.int p4), (.int p5), (.int p6)] 7)) t := fun t k => castTop (ef_ex2 m a1 p3 p4 p5 p6) k
  refine own_step (Q := fun o U' => ∃ v L, o = .returned v ∧ Qex2 Z a1 p3 p4 p5 p6 k1 r0 r1 r2 r3 h0 n0 v U'.heap L ∧ FrameEnd s o U' L ({ frames := 0, cells := 0, slots := 0, locals := 0 } : Room).cells ({ frames := 0, cells := 0, slots := 0, locals := 0 } : Room).slots) pre0 ?_
  have st12 : ∀ t, Steps p.tables e below (s₁.setTop (mkF m 27 #[.val (.ref a1), .val (.int (2 : Int32)), .val (.int p3), .val (.int p4), .val (.int p5), .val (.int p6), .unset] [(.int (fex2_2 p3 p4 p5 p6 r0 r1 r2 r3))])) t → Steps p.tables e below (s₁.setTop (mkF m 2 #[.val (.ref a1), .val (.int (2 : Int32)), .val (.int p3), .val (.int p4), .val (.int p5), .val (.int p6), .unset] [(.int p3), (.int (2 : Int32))])) t := by
    intro t k
    by_cases h1 : (2 : Int32) = p3
    · have st3 : ∀ t, Steps p.tables e below (s₁.setTop (mkF m 27 #[.val (.ref a1), .val (.int (2 : Int32)), .val (.int p3), .val (.int p4), .val (.int p5), .val (.int p6), .unset] [(.int (if (2 : Int32) = p6 then (0 : Int32) else (1 : Int32)))])) t → Steps p.tables e below (s₁.setTop (mkF m 19 #[.val (.ref a1), .val (.int (2 : Int32)), .val (.int p3), .val (.int p4), .val (.int p5), .val (.int p6), .unset] [(.int p6), (.int (2 : Int32))])) t := by
        intro t k
        by_cases h2 : (2 : Int32) = p6
        · rw [show (if (2 : Int32) = p6 then (0 : Int32) else (1 : Int32)) = (0 : Int32) from if_pos h2] at k
          show Steps p.tables e below (s₁.setTop (mkF m 19 #[.val (.ref a1), .val (.int (2 : Int32)), .val (.int p3), .val (.int p4), .val (.int p5), .val (.int p6), .unset] [(.int p6), (.int (2 : Int32))])) _
          refine XS.icmpYes X0.here hx rfl (pc0 := 19) (pc' := 26) rfl (hb hby d4_19) rfl (teq h2).1 (by decide) (by decide) ?_
          show Steps p.tables e below (s₁.setTop (mkF m 26 #[.val (.ref a1), .val (.int (2 : Int32)), .val (.int p3), .val (.int p4), .val (.int p5), .val (.int p6), .unset] [])) _
          refine XS.iconst X0.here hx rfl (hb hby d4_26) ?_
          exact k
        · rw [show (if (2 : Int32) = p6 then (0 : Int32) else (1 : Int32)) = (1 : Int32) from if_neg h2] at k
          show Steps p.tables e below (s₁.setTop (mkF m 19 #[.val (.ref a1), .val (.int (2 : Int32)), .val (.int p3), .val (.int p4), .val (.int p5), .val (.int p6), .unset] [(.int p6), (.int (2 : Int32))])) _
          refine XS.icmpNo X0.here hx rfl (hb hby d4_19) rfl (feq h2).1 ?_
          show Steps p.tables e below (s₁.setTop (mkF m 22 #[.val (.ref a1), .val (.int (2 : Int32)), .val (.int p3), .val (.int p4), .val (.int p5), .val (.int p6), .unset] [])) _
          refine XS.iconst X0.here hx rfl (hb hby d4_22) ?_
          show Steps p.tables e below (s₁.setTop (mkF m 23 #[.val (.ref a1), .val (.int (2 : Int32)), .val (.int p3), .val (.int p4), .val (.int p5), .val (.int p6), .unset] [(.int (1 : Int32))])) _
          refine XS.goto X0.here hx rfl (pc0 := 23) (pc' := 27) rfl (hb hby d4_23) (by decide) (by decide) ?_
          exact k
      rw [show (fex2_2 p3 p4 p5 p6 r0 r1 r2 r3) = (if (2 : Int32) = p6 then (0 : Int32) else (1 : Int32)) from if_pos h1] at k
      show Steps p.tables e below (s₁.setTop (mkF m 2 #[.val (.ref a1), .val (.int (2 : Int32)), .val (.int p3), .val (.int p4), .val (.int p5), .val (.int p6), .unset] [(.int p3), (.int (2 : Int32))])) _
      refine XS.icmpYes X0.here hx rfl (pc0 := 2) (pc' := 16) rfl (hb hby d4_2) rfl (teq h1).1 (by decide) (by decide) ?_
      show Steps p.tables e below (s₁.setTop (mkF m 16 #[.val (.ref a1), .val (.int (2 : Int32)), .val (.int p3), .val (.int p4), .val (.int p5), .val (.int p6), .unset] [])) _
      refine XS.iloadN X0.here hx rfl (hb hby d4_16) rfl ?_
      show Steps p.tables e below (s₁.setTop (mkF m 17 #[.val (.ref a1), .val (.int (2 : Int32)), .val (.int p3), .val (.int p4), .val (.int p5), .val (.int p6), .unset] [(.int (2 : Int32))])) _
      refine XS.iload X0.here hx rfl (hb hby d4_17) rfl ?_
      show Steps p.tables e below (s₁.setTop (mkF m 19 #[.val (.ref a1), .val (.int (2 : Int32)), .val (.int p3), .val (.int p4), .val (.int p5), .val (.int p6), .unset] [(.int p6), (.int (2 : Int32))])) _
      refine st3 _ ?_
      exact k
    · have st11 : ∀ t, Steps p.tables e below (s₁.setTop (mkF m 27 #[.val (.ref a1), .val (.int (2 : Int32)), .val (.int p3), .val (.int p4), .val (.int p5), .val (.int p6), .unset] [(.int (fex2_1 p3 p4 p5 p6 r0 r1 r2 r3))])) t → Steps p.tables e below (s₁.setTop (mkF m 7 #[.val (.ref a1), .val (.int (2 : Int32)), .val (.int p3), .val (.int p4), .val (.int p5), .val (.int p6), .unset] [(.int p4), (.int (2 : Int32))])) t := by
        intro t k
        by_cases h4 : (2 : Int32) = p4
        · have st6 : ∀ t, Steps p.tables e below (s₁.setTop (mkF m 27 #[.val (.ref a1), .val (.int (2 : Int32)), .val (.int p3), .val (.int p4), .val (.int p5), .val (.int p6), .unset] [(.int (if (2 : Int32) = p6 then (0 : Int32) else (1 : Int32)))])) t → Steps p.tables e below (s₁.setTop (mkF m 19 #[.val (.ref a1), .val (.int (2 : Int32)), .val (.int p3), .val (.int p4), .val (.int p5), .val (.int p6), .unset] [(.int p6), (.int (2 : Int32))])) t := by
            intro t k
            by_cases h5 : (2 : Int32) = p6
            · rw [show (if (2 : Int32) = p6 then (0 : Int32) else (1 : Int32)) = (0 : Int32) from if_pos h5] at k
              show Steps p.tables e below (s₁.setTop (mkF m 19 #[.val (.ref a1), .val (.int (2 : Int32)), .val (.int p3), .val (.int p4), .val (.int p5), .val (.int p6), .unset] [(.int p6), (.int (2 : Int32))])) _
              refine XS.icmpYes X0.here hx rfl (pc0 := 19) (pc' := 26) rfl (hb hby d4_19) rfl (teq h5).1 (by decide) (by decide) ?_
              show Steps p.tables e below (s₁.setTop (mkF m 26 #[.val (.ref a1), .val (.int (2 : Int32)), .val (.int p3), .val (.int p4), .val (.int p5), .val (.int p6), .unset] [])) _
              refine XS.iconst X0.here hx rfl (hb hby d4_26) ?_
              exact k
            · rw [show (if (2 : Int32) = p6 then (0 : Int32) else (1 : Int32)) = (1 : Int32) from if_neg h5] at k
              show Steps p.tables e below (s₁.setTop (mkF m 19 #[.val (.ref a1), .val (.int (2 : Int32)), .val (.int p3), .val (.int p4), .val (.int p5), .val (.int p6), .unset] [(.int p6), (.int (2 : Int32))])) _
              refine XS.icmpNo X0.here hx rfl (hb hby d4_19) rfl (feq h5).1 ?_
              show Steps p.tables e below (s₁.setTop (mkF m 22 #[.val (.ref a1), .val (.int (2 : Int32)), .val (.int p3), .val (.int p4), .val (.int p5), .val (.int p6), .unset] [])) _
              refine XS.iconst X0.here hx rfl (hb hby d4_22) ?_
              show Steps p.tables e below (s₁.setTop (mkF m 23 #[.val (.ref a1), .val (.int (2 : Int32)), .val (.int p3), .val (.int p4), .val (.int p5), .val (.int p6), .unset] [(.int (1 : Int32))])) _
              refine XS.goto X0.here hx rfl (pc0 := 23) (pc' := 27) rfl (hb hby d4_23) (by decide) (by decide) ?_
              exact k
          rw [show (fex2_1 p3 p4 p5 p6 r0 r1 r2 r3) = (if (2 : Int32) = p6 then (0 : Int32) else (1 : Int32)) from if_pos h4] at k
          show Steps p.tables e below (s₁.setTop (mkF m 7 #[.val (.ref a1), .val (.int (2 : Int32)), .val (.int p3), .val (.int p4), .val (.int p5), .val (.int p6), .unset] [(.int p4), (.int (2 : Int32))])) _
          refine XS.icmpYes X0.here hx rfl (pc0 := 7) (pc' := 16) rfl (hb hby d4_7) rfl (teq h4).1 (by decide) (by decide) ?_
          show Steps p.tables e below (s₁.setTop (mkF m 16 #[.val (.ref a1), .val (.int (2 : Int32)), .val (.int p3), .val (.int p4), .val (.int p5), .val (.int p6), .unset] [])) _
          refine XS.iloadN X0.here hx rfl (hb hby d4_16) rfl ?_
          show Steps p.tables e below (s₁.setTop (mkF m 17 #[.val (.ref a1), .val (.int (2 : Int32)), .val (.int p3), .val (.int p4), .val (.int p5), .val (.int p6), .unset] [(.int (2 : Int32))])) _
          refine XS.iload X0.here hx rfl (hb hby d4_17) rfl ?_
          show Steps p.tables e below (s₁.setTop (mkF m 19 #[.val (.ref a1), .val (.int (2 : Int32)), .val (.int p3), .val (.int p4), .val (.int p5), .val (.int p6), .unset] [(.int p6), (.int (2 : Int32))])) _
          refine st6 _ ?_
          exact k
        · have st10 : ∀ t, Steps p.tables e below (s₁.setTop (mkF m 27 #[.val (.ref a1), .val (.int (2 : Int32)), .val (.int p3), .val (.int p4), .val (.int p5), .val (.int p6), .unset] [(.int (fex2_0 p3 p4 p5 p6 r0 r1 r2 r3))])) t → Steps p.tables e below (s₁.setTop (mkF m 13 #[.val (.ref a1), .val (.int (2 : Int32)), .val (.int p3), .val (.int p4), .val (.int p5), .val (.int p6), .unset] [(.int p5), (.int (2 : Int32))])) t := by
            intro t k
            by_cases h7 : (2 : Int32) = p5
            · have st9 : ∀ t, Steps p.tables e below (s₁.setTop (mkF m 27 #[.val (.ref a1), .val (.int (2 : Int32)), .val (.int p3), .val (.int p4), .val (.int p5), .val (.int p6), .unset] [(.int (if (2 : Int32) = p6 then (0 : Int32) else (1 : Int32)))])) t → Steps p.tables e below (s₁.setTop (mkF m 19 #[.val (.ref a1), .val (.int (2 : Int32)), .val (.int p3), .val (.int p4), .val (.int p5), .val (.int p6), .unset] [(.int p6), (.int (2 : Int32))])) t := by
                intro t k
                by_cases h8 : (2 : Int32) = p6
                · rw [show (if (2 : Int32) = p6 then (0 : Int32) else (1 : Int32)) = (0 : Int32) from if_pos h8] at k
                  show Steps p.tables e below (s₁.setTop (mkF m 19 #[.val (.ref a1), .val (.int (2 : Int32)), .val (.int p3), .val (.int p4), .val (.int p5), .val (.int p6), .unset] [(.int p6), (.int (2 : Int32))])) _
                  refine XS.icmpYes X0.here hx rfl (pc0 := 19) (pc' := 26) rfl (hb hby d4_19) rfl (teq h8).1 (by decide) (by decide) ?_
                  show Steps p.tables e below (s₁.setTop (mkF m 26 #[.val (.ref a1), .val (.int (2 : Int32)), .val (.int p3), .val (.int p4), .val (.int p5), .val (.int p6), .unset] [])) _
                  refine XS.iconst X0.here hx rfl (hb hby d4_26) ?_
                  exact k
                · rw [show (if (2 : Int32) = p6 then (0 : Int32) else (1 : Int32)) = (1 : Int32) from if_neg h8] at k
                  show Steps p.tables e below (s₁.setTop (mkF m 19 #[.val (.ref a1), .val (.int (2 : Int32)), .val (.int p3), .val (.int p4), .val (.int p5), .val (.int p6), .unset] [(.int p6), (.int (2 : Int32))])) _
                  refine XS.icmpNo X0.here hx rfl (hb hby d4_19) rfl (feq h8).1 ?_
                  show Steps p.tables e below (s₁.setTop (mkF m 22 #[.val (.ref a1), .val (.int (2 : Int32)), .val (.int p3), .val (.int p4), .val (.int p5), .val (.int p6), .unset] [])) _
                  refine XS.iconst X0.here hx rfl (hb hby d4_22) ?_
                  show Steps p.tables e below (s₁.setTop (mkF m 23 #[.val (.ref a1), .val (.int (2 : Int32)), .val (.int p3), .val (.int p4), .val (.int p5), .val (.int p6), .unset] [(.int (1 : Int32))])) _
                  refine XS.goto X0.here hx rfl (pc0 := 23) (pc' := 27) rfl (hb hby d4_23) (by decide) (by decide) ?_
                  exact k
              rw [show (fex2_0 p3 p4 p5 p6 r0 r1 r2 r3) = (if (2 : Int32) = p6 then (0 : Int32) else (1 : Int32)) from if_pos h7] at k
              show Steps p.tables e below (s₁.setTop (mkF m 13 #[.val (.ref a1), .val (.int (2 : Int32)), .val (.int p3), .val (.int p4), .val (.int p5), .val (.int p6), .unset] [(.int p5), (.int (2 : Int32))])) _
              refine XS.icmpNo X0.here hx rfl (hb hby d4_13) rfl (teq h7).2 ?_
              show Steps p.tables e below (s₁.setTop (mkF m 16 #[.val (.ref a1), .val (.int (2 : Int32)), .val (.int p3), .val (.int p4), .val (.int p5), .val (.int p6), .unset] [])) _
              refine XS.iloadN X0.here hx rfl (hb hby d4_16) rfl ?_
              show Steps p.tables e below (s₁.setTop (mkF m 17 #[.val (.ref a1), .val (.int (2 : Int32)), .val (.int p3), .val (.int p4), .val (.int p5), .val (.int p6), .unset] [(.int (2 : Int32))])) _
              refine XS.iload X0.here hx rfl (hb hby d4_17) rfl ?_
              show Steps p.tables e below (s₁.setTop (mkF m 19 #[.val (.ref a1), .val (.int (2 : Int32)), .val (.int p3), .val (.int p4), .val (.int p5), .val (.int p6), .unset] [(.int p6), (.int (2 : Int32))])) _
              refine st9 _ ?_
              exact k
            · rw [show (fex2_0 p3 p4 p5 p6 r0 r1 r2 r3) = (0 : Int32) from if_neg h7] at k
              show Steps p.tables e below (s₁.setTop (mkF m 13 #[.val (.ref a1), .val (.int (2 : Int32)), .val (.int p3), .val (.int p4), .val (.int p5), .val (.int p6), .unset] [(.int p5), (.int (2 : Int32))])) _
              refine XS.icmpYes X0.here hx rfl (pc0 := 13) (pc' := 26) rfl (hb hby d4_13) rfl (feq h7).2 (by decide) (by decide) ?_
              show Steps p.tables e below (s₁.setTop (mkF m 26 #[.val (.ref a1), .val (.int (2 : Int32)), .val (.int p3), .val (.int p4), .val (.int p5), .val (.int p6), .unset] [])) _
              refine XS.iconst X0.here hx rfl (hb hby d4_26) ?_
              exact k
          rw [show (fex2_1 p3 p4 p5 p6 r0 r1 r2 r3) = (fex2_0 p3 p4 p5 p6 r0 r1 r2 r3) from if_neg h4] at k
          show Steps p.tables e below (s₁.setTop (mkF m 7 #[.val (.ref a1), .val (.int (2 : Int32)), .val (.int p3), .val (.int p4), .val (.int p5), .val (.int p6), .unset] [(.int p4), (.int (2 : Int32))])) _
          refine XS.icmpNo X0.here hx rfl (hb hby d4_7) rfl (feq h4).1 ?_
          show Steps p.tables e below (s₁.setTop (mkF m 10 #[.val (.ref a1), .val (.int (2 : Int32)), .val (.int p3), .val (.int p4), .val (.int p5), .val (.int p6), .unset] [])) _
          refine XS.iloadN X0.here hx rfl (hb hby d4_10) rfl ?_
          show Steps p.tables e below (s₁.setTop (mkF m 11 #[.val (.ref a1), .val (.int (2 : Int32)), .val (.int p3), .val (.int p4), .val (.int p5), .val (.int p6), .unset] [(.int (2 : Int32))])) _
          refine XS.iload X0.here hx rfl (hb hby d4_11) rfl ?_
          show Steps p.tables e below (s₁.setTop (mkF m 13 #[.val (.ref a1), .val (.int (2 : Int32)), .val (.int p3), .val (.int p4), .val (.int p5), .val (.int p6), .unset] [(.int p5), (.int (2 : Int32))])) _
          refine st10 _ ?_
          exact k
      rw [show (fex2_2 p3 p4 p5 p6 r0 r1 r2 r3) = (fex2_1 p3 p4 p5 p6 r0 r1 r2 r3) from if_neg h1] at k
      show Steps p.tables e below (s₁.setTop (mkF m 2 #[.val (.ref a1), .val (.int (2 : Int32)), .val (.int p3), .val (.int p4), .val (.int p5), .val (.int p6), .unset] [(.int p3), (.int (2 : Int32))])) _
      refine XS.icmpNo X0.here hx rfl (hb hby d4_2) rfl (feq h1).1 ?_
      show Steps p.tables e below (s₁.setTop (mkF m 5 #[.val (.ref a1), .val (.int (2 : Int32)), .val (.int p3), .val (.int p4), .val (.int p5), .val (.int p6), .unset] [])) _
      refine XS.iloadN X0.here hx rfl (hb hby d4_5) rfl ?_
      show Steps p.tables e below (s₁.setTop (mkF m 6 #[.val (.ref a1), .val (.int (2 : Int32)), .val (.int p3), .val (.int p4), .val (.int p5), .val (.int p6), .unset] [(.int (2 : Int32))])) _
      refine XS.iloadN X0.here hx rfl (hb hby d4_6) rfl ?_
      show Steps p.tables e below (s₁.setTop (mkF m 7 #[.val (.ref a1), .val (.int (2 : Int32)), .val (.int p3), .val (.int p4), .val (.int p5), .val (.int p6), .unset] [(.int p4), (.int (2 : Int32))])) _
      refine st11 _ ?_
      exact k
  have st15 : ∀ t, Steps p.tables e below (s₁.setTop (mkF m 42 #[.val (.ref a1), .val (.int (2 : Int32)), .val (.int p3), .val (.int p4), .val (.int p5), .val (.int p6), .val (.int (fex2_2 p3 p4 p5 p6 r0 r1 r2 r3))] [(.int (fex2_3 p3 p4 p5 p6 r0 r1 r2 r3))])) t → Steps p.tables e below (s₁.setTop (mkF m 31 #[.val (.ref a1), .val (.int (2 : Int32)), .val (.int p3), .val (.int p4), .val (.int p5), .val (.int p6), .val (.int (fex2_2 p3 p4 p5 p6 r0 r1 r2 r3))] [(.int (fex2_2 p3 p4 p5 p6 r0 r1 r2 r3))])) t := by
    intro t k
    by_cases h13 : (fex2_2 p3 p4 p5 p6 r0 r1 r2 r3) = (0 : Int32)
    · obtain ⟨cl14, Ar14, -, S14, M14, H14, -⟩ := id A_a1
      have hin14 := inb_of (j := (2 : Int32)) S14 (by decide)
      have hat14 := H14.at hin14 (v := (.int r2)) (rfl)
      rw [show (fex2_3 p3 p4 p5 p6 r0 r1 r2 r3) = r2 from if_pos h13] at k
      show Steps p.tables e below (s₁.setTop (mkF m 31 #[.val (.ref a1), .val (.int (2 : Int32)), .val (.int p3), .val (.int p4), .val (.int p5), .val (.int p6), .val (.int (fex2_2 p3 p4 p5 p6 r0 r1 r2 r3))] [(.int (fex2_2 p3 p4 p5 p6 r0 r1 r2 r3))])) _
      refine XS.ifYes X0.here hx rfl (pc0 := 31) (pc' := 39) rfl (hb hby d4_31) rfl ((if0 _ _).trans (teq h13).1) (by decide) (by decide) ?_
      show Steps p.tables e below (s₁.setTop (mkF m 39 #[.val (.ref a1), .val (.int (2 : Int32)), .val (.int p3), .val (.int p4), .val (.int p5), .val (.int p6), .val (.int (fex2_2 p3 p4 p5 p6 r0 r1 r2 r3))] [])) _
      refine XS.aloadN X0.here hx rfl (hb hby d4_39) rfl rfl ?_
      show Steps p.tables e below (s₁.setTop (mkF m 40 #[.val (.ref a1), .val (.int (2 : Int32)), .val (.int p3), .val (.int p4), .val (.int p5), .val (.int p6), .val (.int (fex2_2 p3 p4 p5 p6 r0 r1 r2 r3))] [(.ref a1)])) _
      refine XS.iloadN X0.here hx rfl (hb hby d4_40) rfl ?_
      show Steps p.tables e below (s₁.setTop (mkF m 41 #[.val (.ref a1), .val (.int (2 : Int32)), .val (.int p3), .val (.int p4), .val (.int p5), .val (.int p6), .val (.int (fex2_2 p3 p4 p5 p6 r0 r1 r2 r3))] [(.int (2 : Int32)), (.ref a1)])) _
      refine X0.iaload hx (j := (2 : Int32)) (v := (.int r2)) (by rw [e0]; exact Ar14.1) (State.isArrayOf_alike hZ.alike Ar14.2.1) Ar14.2.2 hin14 hat14 (g := (mkF m 41 #[.val (.ref a1), .val (.int (2 : Int32)), .val (.int p3), .val (.int p4), .val (.int p5), .val (.int p6), .val (.int (fex2_2 p3 p4 p5 p6 r0 r1 r2 r3))] [(.int (2 : Int32)), (.ref a1)])) rfl rfl (hb hby d4_41) _ ?_
      exact k
    · rw [show (fex2_3 p3 p4 p5 p6 r0 r1 r2 r3) = p6 from if_neg h13] at k
      show Steps p.tables e below (s₁.setTop (mkF m 31 #[.val (.ref a1), .val (.int (2 : Int32)), .val (.int p3), .val (.int p4), .val (.int p5), .val (.int p6), .val (.int (fex2_2 p3 p4 p5 p6 r0 r1 r2 r3))] [(.int (fex2_2 p3 p4 p5 p6 r0 r1 r2 r3))])) _
      refine XS.ifNo X0.here hx rfl (hb hby d4_31) rfl ((if0 _ _).trans (feq h13).1) ?_
      show Steps p.tables e below (s₁.setTop (mkF m 34 #[.val (.ref a1), .val (.int (2 : Int32)), .val (.int p3), .val (.int p4), .val (.int p5), .val (.int p6), .val (.int (fex2_2 p3 p4 p5 p6 r0 r1 r2 r3))] [])) _
      refine XS.iload X0.here hx rfl (hb hby d4_34) rfl ?_
      show Steps p.tables e below (s₁.setTop (mkF m 36 #[.val (.ref a1), .val (.int (2 : Int32)), .val (.int p3), .val (.int p4), .val (.int p5), .val (.int p6), .val (.int (fex2_2 p3 p4 p5 p6 r0 r1 r2 r3))] [(.int p6)])) _
      refine XS.goto X0.here hx rfl (pc0 := 36) (pc' := 42) rfl (hb hby d4_36) (by decide) (by decide) ?_
      exact k
  obtain ⟨fs, hr, hrun, hended, hW, hsame⟩ := X0.leave (v := some (.int (fex2_3 p3 p4 p5 p6 r0 r1 r2 r3))) (fun h => by rw [Bd.returns] at h; cases h)
  refine ⟨_, _, ?_, hrun, hended, _, _, rfl, ?_, ⟨_, rfl⟩, hW, hsame.mono (by decide) (by decide)⟩
  · show Steps p.tables e below (s₁.setTop (mkF m 0 #[.val (.ref a1), .val (.int (2 : Int32)), .val (.int p3), .val (.int p4), .val (.int p5), .val (.int p6), .unset] [])) _
    refine XS.iloadN X0.here hx rfl (hb hby d4_0) rfl ?_
    show Steps p.tables e below (s₁.setTop (mkF m 1 #[.val (.ref a1), .val (.int (2 : Int32)), .val (.int p3), .val (.int p4), .val (.int p5), .val (.int p6), .unset] [(.int (2 : Int32))])) _
    refine XS.iloadN X0.here hx rfl (hb hby d4_1) rfl ?_
    show Steps p.tables e below (s₁.setTop (mkF m 2 #[.val (.ref a1), .val (.int (2 : Int32)), .val (.int p3), .val (.int p4), .val (.int p5), .val (.int p6), .unset] [(.int p3), (.int (2 : Int32))])) _
    refine st12 _ ?_
    show Steps p.tables e below (s₁.setTop (mkF m 27 #[.val (.ref a1), .val (.int (2 : Int32)), .val (.int p3), .val (.int p4), .val (.int p5), .val (.int p6), .unset] [(.int (fex2_2 p3 p4 p5 p6 r0 r1 r2 r3))])) _
    refine XS.istore X0.here hx rfl (hb hby d4_27) rfl (l' := #[.val (.ref a1), .val (.int (2 : Int32)), .val (.int p3), .val (.int p4), .val (.int p5), .val (.int p6), .val (.int (fex2_2 p3 p4 p5 p6 r0 r1 r2 r3))]) rfl ?_
    show Steps p.tables e below (s₁.setTop (mkF m 29 #[.val (.ref a1), .val (.int (2 : Int32)), .val (.int p3), .val (.int p4), .val (.int p5), .val (.int p6), .val (.int (fex2_2 p3 p4 p5 p6 r0 r1 r2 r3))] [])) _
    refine XS.iload X0.here hx rfl (hb hby d4_29) rfl ?_
    show Steps p.tables e below (s₁.setTop (mkF m 31 #[.val (.ref a1), .val (.int (2 : Int32)), .val (.int p3), .val (.int p4), .val (.int p5), .val (.int p6), .val (.int (fex2_2 p3 p4 p5 p6 r0 r1 r2 r3))] [(.int (fex2_2 p3 p4 p5 p6 r0 r1 r2 r3))])) _
    refine st15 _ ?_
    show Steps p.tables e below (s₁.setTop (mkF m 42 #[.val (.ref a1), .val (.int (2 : Int32)), .val (.int p3), .val (.int p4), .val (.int p5), .val (.int p6), .val (.int (fex2_2 p3 p4 p5 p6 r0 r1 r2 r3))] [(.int (fex2_3 p3 p4 p5 p6 r0 r1 r2 r3))])) _
    exact retI X0 hx Bd.returns (hb hby d4_42) hr
  · show Qex2 Z a1 p3 p4 p5 p6 k1 r0 r1 r2 r3 h0 n0 _ s₁.heap _
    rw [e0]
    have hf : fex2 p3 p4 p5 p6 r0 r1 r2 r3 = (fex2_3 p3 p4 p5 p6 r0 r1 r2 r3) := rfl
    exact ⟨by rw [hf], N0, rfl⟩
theorem pn_ex3 : plainName "com/example/bonn/bonn/ValueGroupsRootPinLaw" = true := by first | (simp [plainName, overriddenIn]; done) | decide +kernel
theorem ef_ex3 (m : MethodId) (a1 : Addr) (p3 : Int32) (p4 : Int32) (p5 : Int32) (p6 : Int32) : entryFrame m #[(.ref a1), (.int (3 : Int32)), (.int p3), (.int p4), (.int p5), (.int p6)] 7 = mkF m 0 #[.val (.ref a1), .val (.int (3 : Int32)), .val (.int p3), .val (.int p4), .val (.int p5), .val (.int p6), .unset] [] := by first | (simp [entryFrame, mkF, argsToLocals, Value.category]; done) | rfl
def Qex3 (Z : State) (a1 : Addr) (p3 : Int32) (p4 : Int32) (p5 : Int32) (p6 : Int32) (k1 : ClassId) (r0 : Int32) (r1 : Int32) (r2 : Int32) (r3 : Int32) (h0 : Heap) (n0 : Nat) (v : Option Value) (h : Heap) (L : List Loc) : Prop := v = some (.int (fex3 p3 p4 p5 p6 r0 r1 r2 r3)) ∧ Fr n0 L ∧ h = h0
set_option maxRecDepth 65536 in
set_option maxHeartbeats 40000000 in
theorem rmex3 (l : Launch) (Z : State) (a0 : Array Value) (hw : ∀ d ∈ tables_1, d.before a0 Z = true) (ws : List Jvm.Cond) (a1 : Addr) (p3 : Int32) (p4 : Int32) (p5 : Int32) (p6 : Int32) (k1 : ClassId) (r0 : Int32) (r1 : Int32) (r2 : Int32) (r3 : Int32) (h0 : Heap) (n0 : Nat) (Z0 : n0 ≤ h0.size) (A_a1 : Arv Z h0 a1 k1 .int (4 : Int32) [(.int r0), (.int r1), (.int r2), (.int r3)] (.int (0 : Int32))) :
    MetFree l (⟨"com/example/bonn/bonn/ValueGroupsRootPinLaw", "expected", "([IIIIII)I"⟩ : MethodName) (head1 (Jvm.Cond.code (⟨"com/example/bonn/bonn/ValueGroupsRootPinLaw", "expected", "([IIIIII)I"⟩ : MethodName) method_3_code 7 (some .int) :: ws) ({ frames := 0, cells := 0, slots := 0, locals := 0 } : Room)) (fun a U => a = #[(.ref a1), (.int (3 : Int32)), (.int p3), (.int p4), (.int p5), (.int p6)] ∧ Z.Warmed39 U.vm ∧ U.heap = h0) (fun _ _ _ _ _ => True) (fun _ U o U' => ∃ v L, o = .returned v ∧ Qex3 Z a1 p3 p4 p5 p6 k1 r0 r1 r2 r3 h0 n0 v U'.heap L ∧ FrameEnd U o U' L ({ frames := 0, cells := 0, slots := 0, locals := 0 } : Room).cells ({ frames := 0, cells := 0, slots := 0, locals := 0 } : Room).slots) := by
  refine MetFree.of_bodySF (plainFor_of_name pn_ex3) hisR ?_
  intro p e s m args below meth c s₁ Bd hml0 hP hK
  obtain ⟨rfl, hZ, hh⟩ := hP
  have hx := Bd.exec
  have hby := Bd.bytes
  have hml : c.maxLocals = 7 := hml0
  have hown : s.vm.findClass "com/example/bonn/bonn/ValueGroupsRootPinLaw" = some m.cls := findClass_of_methodNamed Bd.named
  have hnm := (name_of_methodNamed Bd.named Bd.method).1
  have X0 : Stand p l e ({ frames := 0, cells := 0, slots := 0, locals := 0 } : Room) s m #[(.ref a1), (.int (3 : Int32)), (.int p3), (.int p4), (.int p5), (.int p6)] below meth c s₁ [] 0 0 := Stand.of_body Bd
  have e0 : s₁.heap = h0 := by rw [← hh, Bd.state]; rfl
  have N0 := Fr.nil n0
  have pre0 : ∀ t, Steps p.tables e below (s₁.setTop (mkF m 0 #[.val (.ref a1), .val (.int (3 : Int32)), .val (.int p3), .val (.int p4), .val (.int p5), .val (.int p6), .unset] [])) t → Steps p.tables e below (s₁.setTop (entryFrame m #[(.ref a1), (.int (3 : Int32)), (.int p3), (.int p4), (.int p5), (.int p6)] 7)) t := fun t k => castTop (ef_ex3 m a1 p3 p4 p5 p6) k
  refine own_step (Q := fun o U' => ∃ v L, o = .returned v ∧ Qex3 Z a1 p3 p4 p5 p6 k1 r0 r1 r2 r3 h0 n0 v U'.heap L ∧ FrameEnd s o U' L ({ frames := 0, cells := 0, slots := 0, locals := 0 } : Room).cells ({ frames := 0, cells := 0, slots := 0, locals := 0 } : Room).slots) pre0 ?_
  have st12 : ∀ t, Steps p.tables e below (s₁.setTop (mkF m 27 #[.val (.ref a1), .val (.int (3 : Int32)), .val (.int p3), .val (.int p4), .val (.int p5), .val (.int p6), .unset] [(.int (fex3_2 p3 p4 p5 p6 r0 r1 r2 r3))])) t → Steps p.tables e below (s₁.setTop (mkF m 2 #[.val (.ref a1), .val (.int (3 : Int32)), .val (.int p3), .val (.int p4), .val (.int p5), .val (.int p6), .unset] [(.int p3), (.int (3 : Int32))])) t := by
    intro t k
    by_cases h1 : (3 : Int32) = p3
    · have st3 : ∀ t, Steps p.tables e below (s₁.setTop (mkF m 27 #[.val (.ref a1), .val (.int (3 : Int32)), .val (.int p3), .val (.int p4), .val (.int p5), .val (.int p6), .unset] [(.int (if (3 : Int32) = p6 then (0 : Int32) else (1 : Int32)))])) t → Steps p.tables e below (s₁.setTop (mkF m 19 #[.val (.ref a1), .val (.int (3 : Int32)), .val (.int p3), .val (.int p4), .val (.int p5), .val (.int p6), .unset] [(.int p6), (.int (3 : Int32))])) t := by
        intro t k
        by_cases h2 : (3 : Int32) = p6
        · rw [show (if (3 : Int32) = p6 then (0 : Int32) else (1 : Int32)) = (0 : Int32) from if_pos h2] at k
          show Steps p.tables e below (s₁.setTop (mkF m 19 #[.val (.ref a1), .val (.int (3 : Int32)), .val (.int p3), .val (.int p4), .val (.int p5), .val (.int p6), .unset] [(.int p6), (.int (3 : Int32))])) _
          refine XS.icmpYes X0.here hx rfl (pc0 := 19) (pc' := 26) rfl (hb hby d4_19) rfl (teq h2).1 (by decide) (by decide) ?_
          show Steps p.tables e below (s₁.setTop (mkF m 26 #[.val (.ref a1), .val (.int (3 : Int32)), .val (.int p3), .val (.int p4), .val (.int p5), .val (.int p6), .unset] [])) _
          refine XS.iconst X0.here hx rfl (hb hby d4_26) ?_
          exact k
        · rw [show (if (3 : Int32) = p6 then (0 : Int32) else (1 : Int32)) = (1 : Int32) from if_neg h2] at k
          show Steps p.tables e below (s₁.setTop (mkF m 19 #[.val (.ref a1), .val (.int (3 : Int32)), .val (.int p3), .val (.int p4), .val (.int p5), .val (.int p6), .unset] [(.int p6), (.int (3 : Int32))])) _
          refine XS.icmpNo X0.here hx rfl (hb hby d4_19) rfl (feq h2).1 ?_
          show Steps p.tables e below (s₁.setTop (mkF m 22 #[.val (.ref a1), .val (.int (3 : Int32)), .val (.int p3), .val (.int p4), .val (.int p5), .val (.int p6), .unset] [])) _
          refine XS.iconst X0.here hx rfl (hb hby d4_22) ?_
          show Steps p.tables e below (s₁.setTop (mkF m 23 #[.val (.ref a1), .val (.int (3 : Int32)), .val (.int p3), .val (.int p4), .val (.int p5), .val (.int p6), .unset] [(.int (1 : Int32))])) _
          refine XS.goto X0.here hx rfl (pc0 := 23) (pc' := 27) rfl (hb hby d4_23) (by decide) (by decide) ?_
          exact k
      rw [show (fex3_2 p3 p4 p5 p6 r0 r1 r2 r3) = (if (3 : Int32) = p6 then (0 : Int32) else (1 : Int32)) from if_pos h1] at k
      show Steps p.tables e below (s₁.setTop (mkF m 2 #[.val (.ref a1), .val (.int (3 : Int32)), .val (.int p3), .val (.int p4), .val (.int p5), .val (.int p6), .unset] [(.int p3), (.int (3 : Int32))])) _
      refine XS.icmpYes X0.here hx rfl (pc0 := 2) (pc' := 16) rfl (hb hby d4_2) rfl (teq h1).1 (by decide) (by decide) ?_
      show Steps p.tables e below (s₁.setTop (mkF m 16 #[.val (.ref a1), .val (.int (3 : Int32)), .val (.int p3), .val (.int p4), .val (.int p5), .val (.int p6), .unset] [])) _
      refine XS.iloadN X0.here hx rfl (hb hby d4_16) rfl ?_
      show Steps p.tables e below (s₁.setTop (mkF m 17 #[.val (.ref a1), .val (.int (3 : Int32)), .val (.int p3), .val (.int p4), .val (.int p5), .val (.int p6), .unset] [(.int (3 : Int32))])) _
      refine XS.iload X0.here hx rfl (hb hby d4_17) rfl ?_
      show Steps p.tables e below (s₁.setTop (mkF m 19 #[.val (.ref a1), .val (.int (3 : Int32)), .val (.int p3), .val (.int p4), .val (.int p5), .val (.int p6), .unset] [(.int p6), (.int (3 : Int32))])) _
      refine st3 _ ?_
      exact k
    · have st11 : ∀ t, Steps p.tables e below (s₁.setTop (mkF m 27 #[.val (.ref a1), .val (.int (3 : Int32)), .val (.int p3), .val (.int p4), .val (.int p5), .val (.int p6), .unset] [(.int (fex3_1 p3 p4 p5 p6 r0 r1 r2 r3))])) t → Steps p.tables e below (s₁.setTop (mkF m 7 #[.val (.ref a1), .val (.int (3 : Int32)), .val (.int p3), .val (.int p4), .val (.int p5), .val (.int p6), .unset] [(.int p4), (.int (3 : Int32))])) t := by
        intro t k
        by_cases h4 : (3 : Int32) = p4
        · have st6 : ∀ t, Steps p.tables e below (s₁.setTop (mkF m 27 #[.val (.ref a1), .val (.int (3 : Int32)), .val (.int p3), .val (.int p4), .val (.int p5), .val (.int p6), .unset] [(.int (if (3 : Int32) = p6 then (0 : Int32) else (1 : Int32)))])) t → Steps p.tables e below (s₁.setTop (mkF m 19 #[.val (.ref a1), .val (.int (3 : Int32)), .val (.int p3), .val (.int p4), .val (.int p5), .val (.int p6), .unset] [(.int p6), (.int (3 : Int32))])) t := by
            intro t k
            by_cases h5 : (3 : Int32) = p6
            · rw [show (if (3 : Int32) = p6 then (0 : Int32) else (1 : Int32)) = (0 : Int32) from if_pos h5] at k
              show Steps p.tables e below (s₁.setTop (mkF m 19 #[.val (.ref a1), .val (.int (3 : Int32)), .val (.int p3), .val (.int p4), .val (.int p5), .val (.int p6), .unset] [(.int p6), (.int (3 : Int32))])) _
              refine XS.icmpYes X0.here hx rfl (pc0 := 19) (pc' := 26) rfl (hb hby d4_19) rfl (teq h5).1 (by decide) (by decide) ?_
              show Steps p.tables e below (s₁.setTop (mkF m 26 #[.val (.ref a1), .val (.int (3 : Int32)), .val (.int p3), .val (.int p4), .val (.int p5), .val (.int p6), .unset] [])) _
              refine XS.iconst X0.here hx rfl (hb hby d4_26) ?_
              exact k
            · rw [show (if (3 : Int32) = p6 then (0 : Int32) else (1 : Int32)) = (1 : Int32) from if_neg h5] at k
              show Steps p.tables e below (s₁.setTop (mkF m 19 #[.val (.ref a1), .val (.int (3 : Int32)), .val (.int p3), .val (.int p4), .val (.int p5), .val (.int p6), .unset] [(.int p6), (.int (3 : Int32))])) _
              refine XS.icmpNo X0.here hx rfl (hb hby d4_19) rfl (feq h5).1 ?_
              show Steps p.tables e below (s₁.setTop (mkF m 22 #[.val (.ref a1), .val (.int (3 : Int32)), .val (.int p3), .val (.int p4), .val (.int p5), .val (.int p6), .unset] [])) _
              refine XS.iconst X0.here hx rfl (hb hby d4_22) ?_
              show Steps p.tables e below (s₁.setTop (mkF m 23 #[.val (.ref a1), .val (.int (3 : Int32)), .val (.int p3), .val (.int p4), .val (.int p5), .val (.int p6), .unset] [(.int (1 : Int32))])) _
              refine XS.goto X0.here hx rfl (pc0 := 23) (pc' := 27) rfl (hb hby d4_23) (by decide) (by decide) ?_
              exact k
          rw [show (fex3_1 p3 p4 p5 p6 r0 r1 r2 r3) = (if (3 : Int32) = p6 then (0 : Int32) else (1 : Int32)) from if_pos h4] at k
          show Steps p.tables e below (s₁.setTop (mkF m 7 #[.val (.ref a1), .val (.int (3 : Int32)), .val (.int p3), .val (.int p4), .val (.int p5), .val (.int p6), .unset] [(.int p4), (.int (3 : Int32))])) _
          refine XS.icmpYes X0.here hx rfl (pc0 := 7) (pc' := 16) rfl (hb hby d4_7) rfl (teq h4).1 (by decide) (by decide) ?_
          show Steps p.tables e below (s₁.setTop (mkF m 16 #[.val (.ref a1), .val (.int (3 : Int32)), .val (.int p3), .val (.int p4), .val (.int p5), .val (.int p6), .unset] [])) _
          refine XS.iloadN X0.here hx rfl (hb hby d4_16) rfl ?_
          show Steps p.tables e below (s₁.setTop (mkF m 17 #[.val (.ref a1), .val (.int (3 : Int32)), .val (.int p3), .val (.int p4), .val (.int p5), .val (.int p6), .unset] [(.int (3 : Int32))])) _
          refine XS.iload X0.here hx rfl (hb hby d4_17) rfl ?_
          show Steps p.tables e below (s₁.setTop (mkF m 19 #[.val (.ref a1), .val (.int (3 : Int32)), .val (.int p3), .val (.int p4), .val (.int p5), .val (.int p6), .unset] [(.int p6), (.int (3 : Int32))])) _
          refine st6 _ ?_
          exact k
        · have st10 : ∀ t, Steps p.tables e below (s₁.setTop (mkF m 27 #[.val (.ref a1), .val (.int (3 : Int32)), .val (.int p3), .val (.int p4), .val (.int p5), .val (.int p6), .unset] [(.int (fex3_0 p3 p4 p5 p6 r0 r1 r2 r3))])) t → Steps p.tables e below (s₁.setTop (mkF m 13 #[.val (.ref a1), .val (.int (3 : Int32)), .val (.int p3), .val (.int p4), .val (.int p5), .val (.int p6), .unset] [(.int p5), (.int (3 : Int32))])) t := by
            intro t k
            by_cases h7 : (3 : Int32) = p5
            · have st9 : ∀ t, Steps p.tables e below (s₁.setTop (mkF m 27 #[.val (.ref a1), .val (.int (3 : Int32)), .val (.int p3), .val (.int p4), .val (.int p5), .val (.int p6), .unset] [(.int (if (3 : Int32) = p6 then (0 : Int32) else (1 : Int32)))])) t → Steps p.tables e below (s₁.setTop (mkF m 19 #[.val (.ref a1), .val (.int (3 : Int32)), .val (.int p3), .val (.int p4), .val (.int p5), .val (.int p6), .unset] [(.int p6), (.int (3 : Int32))])) t := by
                intro t k
                by_cases h8 : (3 : Int32) = p6
                · rw [show (if (3 : Int32) = p6 then (0 : Int32) else (1 : Int32)) = (0 : Int32) from if_pos h8] at k
                  show Steps p.tables e below (s₁.setTop (mkF m 19 #[.val (.ref a1), .val (.int (3 : Int32)), .val (.int p3), .val (.int p4), .val (.int p5), .val (.int p6), .unset] [(.int p6), (.int (3 : Int32))])) _
                  refine XS.icmpYes X0.here hx rfl (pc0 := 19) (pc' := 26) rfl (hb hby d4_19) rfl (teq h8).1 (by decide) (by decide) ?_
                  show Steps p.tables e below (s₁.setTop (mkF m 26 #[.val (.ref a1), .val (.int (3 : Int32)), .val (.int p3), .val (.int p4), .val (.int p5), .val (.int p6), .unset] [])) _
                  refine XS.iconst X0.here hx rfl (hb hby d4_26) ?_
                  exact k
                · rw [show (if (3 : Int32) = p6 then (0 : Int32) else (1 : Int32)) = (1 : Int32) from if_neg h8] at k
                  show Steps p.tables e below (s₁.setTop (mkF m 19 #[.val (.ref a1), .val (.int (3 : Int32)), .val (.int p3), .val (.int p4), .val (.int p5), .val (.int p6), .unset] [(.int p6), (.int (3 : Int32))])) _
                  refine XS.icmpNo X0.here hx rfl (hb hby d4_19) rfl (feq h8).1 ?_
                  show Steps p.tables e below (s₁.setTop (mkF m 22 #[.val (.ref a1), .val (.int (3 : Int32)), .val (.int p3), .val (.int p4), .val (.int p5), .val (.int p6), .unset] [])) _
                  refine XS.iconst X0.here hx rfl (hb hby d4_22) ?_
                  show Steps p.tables e below (s₁.setTop (mkF m 23 #[.val (.ref a1), .val (.int (3 : Int32)), .val (.int p3), .val (.int p4), .val (.int p5), .val (.int p6), .unset] [(.int (1 : Int32))])) _
                  refine XS.goto X0.here hx rfl (pc0 := 23) (pc' := 27) rfl (hb hby d4_23) (by decide) (by decide) ?_
                  exact k
              rw [show (fex3_0 p3 p4 p5 p6 r0 r1 r2 r3) = (if (3 : Int32) = p6 then (0 : Int32) else (1 : Int32)) from if_pos h7] at k
              show Steps p.tables e below (s₁.setTop (mkF m 13 #[.val (.ref a1), .val (.int (3 : Int32)), .val (.int p3), .val (.int p4), .val (.int p5), .val (.int p6), .unset] [(.int p5), (.int (3 : Int32))])) _
              refine XS.icmpNo X0.here hx rfl (hb hby d4_13) rfl (teq h7).2 ?_
              show Steps p.tables e below (s₁.setTop (mkF m 16 #[.val (.ref a1), .val (.int (3 : Int32)), .val (.int p3), .val (.int p4), .val (.int p5), .val (.int p6), .unset] [])) _
              refine XS.iloadN X0.here hx rfl (hb hby d4_16) rfl ?_
              show Steps p.tables e below (s₁.setTop (mkF m 17 #[.val (.ref a1), .val (.int (3 : Int32)), .val (.int p3), .val (.int p4), .val (.int p5), .val (.int p6), .unset] [(.int (3 : Int32))])) _
              refine XS.iload X0.here hx rfl (hb hby d4_17) rfl ?_
              show Steps p.tables e below (s₁.setTop (mkF m 19 #[.val (.ref a1), .val (.int (3 : Int32)), .val (.int p3), .val (.int p4), .val (.int p5), .val (.int p6), .unset] [(.int p6), (.int (3 : Int32))])) _
              refine st9 _ ?_
              exact k
            · rw [show (fex3_0 p3 p4 p5 p6 r0 r1 r2 r3) = (0 : Int32) from if_neg h7] at k
              show Steps p.tables e below (s₁.setTop (mkF m 13 #[.val (.ref a1), .val (.int (3 : Int32)), .val (.int p3), .val (.int p4), .val (.int p5), .val (.int p6), .unset] [(.int p5), (.int (3 : Int32))])) _
              refine XS.icmpYes X0.here hx rfl (pc0 := 13) (pc' := 26) rfl (hb hby d4_13) rfl (feq h7).2 (by decide) (by decide) ?_
              show Steps p.tables e below (s₁.setTop (mkF m 26 #[.val (.ref a1), .val (.int (3 : Int32)), .val (.int p3), .val (.int p4), .val (.int p5), .val (.int p6), .unset] [])) _
              refine XS.iconst X0.here hx rfl (hb hby d4_26) ?_
              exact k
          rw [show (fex3_1 p3 p4 p5 p6 r0 r1 r2 r3) = (fex3_0 p3 p4 p5 p6 r0 r1 r2 r3) from if_neg h4] at k
          show Steps p.tables e below (s₁.setTop (mkF m 7 #[.val (.ref a1), .val (.int (3 : Int32)), .val (.int p3), .val (.int p4), .val (.int p5), .val (.int p6), .unset] [(.int p4), (.int (3 : Int32))])) _
          refine XS.icmpNo X0.here hx rfl (hb hby d4_7) rfl (feq h4).1 ?_
          show Steps p.tables e below (s₁.setTop (mkF m 10 #[.val (.ref a1), .val (.int (3 : Int32)), .val (.int p3), .val (.int p4), .val (.int p5), .val (.int p6), .unset] [])) _
          refine XS.iloadN X0.here hx rfl (hb hby d4_10) rfl ?_
          show Steps p.tables e below (s₁.setTop (mkF m 11 #[.val (.ref a1), .val (.int (3 : Int32)), .val (.int p3), .val (.int p4), .val (.int p5), .val (.int p6), .unset] [(.int (3 : Int32))])) _
          refine XS.iload X0.here hx rfl (hb hby d4_11) rfl ?_
          show Steps p.tables e below (s₁.setTop (mkF m 13 #[.val (.ref a1), .val (.int (3 : Int32)), .val (.int p3), .val (.int p4), .val (.int p5), .val (.int p6), .unset] [(.int p5), (.int (3 : Int32))])) _
          refine st10 _ ?_
          exact k
      rw [show (fex3_2 p3 p4 p5 p6 r0 r1 r2 r3) = (fex3_1 p3 p4 p5 p6 r0 r1 r2 r3) from if_neg h1] at k
      show Steps p.tables e below (s₁.setTop (mkF m 2 #[.val (.ref a1), .val (.int (3 : Int32)), .val (.int p3), .val (.int p4), .val (.int p5), .val (.int p6), .unset] [(.int p3), (.int (3 : Int32))])) _
      refine XS.icmpNo X0.here hx rfl (hb hby d4_2) rfl (feq h1).1 ?_
      show Steps p.tables e below (s₁.setTop (mkF m 5 #[.val (.ref a1), .val (.int (3 : Int32)), .val (.int p3), .val (.int p4), .val (.int p5), .val (.int p6), .unset] [])) _
      refine XS.iloadN X0.here hx rfl (hb hby d4_5) rfl ?_
      show Steps p.tables e below (s₁.setTop (mkF m 6 #[.val (.ref a1), .val (.int (3 : Int32)), .val (.int p3), .val (.int p4), .val (.int p5), .val (.int p6), .unset] [(.int (3 : Int32))])) _
      refine XS.iloadN X0.here hx rfl (hb hby d4_6) rfl ?_
      show Steps p.tables e below (s₁.setTop (mkF m 7 #[.val (.ref a1), .val (.int (3 : Int32)), .val (.int p3), .val (.int p4), .val (.int p5), .val (.int p6), .unset] [(.int p4), (.int (3 : Int32))])) _
      refine st11 _ ?_
      exact k
  have st15 : ∀ t, Steps p.tables e below (s₁.setTop (mkF m 42 #[.val (.ref a1), .val (.int (3 : Int32)), .val (.int p3), .val (.int p4), .val (.int p5), .val (.int p6), .val (.int (fex3_2 p3 p4 p5 p6 r0 r1 r2 r3))] [(.int (fex3_3 p3 p4 p5 p6 r0 r1 r2 r3))])) t → Steps p.tables e below (s₁.setTop (mkF m 31 #[.val (.ref a1), .val (.int (3 : Int32)), .val (.int p3), .val (.int p4), .val (.int p5), .val (.int p6), .val (.int (fex3_2 p3 p4 p5 p6 r0 r1 r2 r3))] [(.int (fex3_2 p3 p4 p5 p6 r0 r1 r2 r3))])) t := by
    intro t k
    by_cases h13 : (fex3_2 p3 p4 p5 p6 r0 r1 r2 r3) = (0 : Int32)
    · obtain ⟨cl14, Ar14, -, S14, M14, H14, -⟩ := id A_a1
      have hin14 := inb_of (j := (3 : Int32)) S14 (by decide)
      have hat14 := H14.at hin14 (v := (.int r3)) (rfl)
      rw [show (fex3_3 p3 p4 p5 p6 r0 r1 r2 r3) = r3 from if_pos h13] at k
      show Steps p.tables e below (s₁.setTop (mkF m 31 #[.val (.ref a1), .val (.int (3 : Int32)), .val (.int p3), .val (.int p4), .val (.int p5), .val (.int p6), .val (.int (fex3_2 p3 p4 p5 p6 r0 r1 r2 r3))] [(.int (fex3_2 p3 p4 p5 p6 r0 r1 r2 r3))])) _
      refine XS.ifYes X0.here hx rfl (pc0 := 31) (pc' := 39) rfl (hb hby d4_31) rfl ((if0 _ _).trans (teq h13).1) (by decide) (by decide) ?_
      show Steps p.tables e below (s₁.setTop (mkF m 39 #[.val (.ref a1), .val (.int (3 : Int32)), .val (.int p3), .val (.int p4), .val (.int p5), .val (.int p6), .val (.int (fex3_2 p3 p4 p5 p6 r0 r1 r2 r3))] [])) _
      refine XS.aloadN X0.here hx rfl (hb hby d4_39) rfl rfl ?_
      show Steps p.tables e below (s₁.setTop (mkF m 40 #[.val (.ref a1), .val (.int (3 : Int32)), .val (.int p3), .val (.int p4), .val (.int p5), .val (.int p6), .val (.int (fex3_2 p3 p4 p5 p6 r0 r1 r2 r3))] [(.ref a1)])) _
      refine XS.iloadN X0.here hx rfl (hb hby d4_40) rfl ?_
      show Steps p.tables e below (s₁.setTop (mkF m 41 #[.val (.ref a1), .val (.int (3 : Int32)), .val (.int p3), .val (.int p4), .val (.int p5), .val (.int p6), .val (.int (fex3_2 p3 p4 p5 p6 r0 r1 r2 r3))] [(.int (3 : Int32)), (.ref a1)])) _
      refine X0.iaload hx (j := (3 : Int32)) (v := (.int r3)) (by rw [e0]; exact Ar14.1) (State.isArrayOf_alike hZ.alike Ar14.2.1) Ar14.2.2 hin14 hat14 (g := (mkF m 41 #[.val (.ref a1), .val (.int (3 : Int32)), .val (.int p3), .val (.int p4), .val (.int p5), .val (.int p6), .val (.int (fex3_2 p3 p4 p5 p6 r0 r1 r2 r3))] [(.int (3 : Int32)), (.ref a1)])) rfl rfl (hb hby d4_41) _ ?_
      exact k
    · rw [show (fex3_3 p3 p4 p5 p6 r0 r1 r2 r3) = p6 from if_neg h13] at k
      show Steps p.tables e below (s₁.setTop (mkF m 31 #[.val (.ref a1), .val (.int (3 : Int32)), .val (.int p3), .val (.int p4), .val (.int p5), .val (.int p6), .val (.int (fex3_2 p3 p4 p5 p6 r0 r1 r2 r3))] [(.int (fex3_2 p3 p4 p5 p6 r0 r1 r2 r3))])) _
      refine XS.ifNo X0.here hx rfl (hb hby d4_31) rfl ((if0 _ _).trans (feq h13).1) ?_
      show Steps p.tables e below (s₁.setTop (mkF m 34 #[.val (.ref a1), .val (.int (3 : Int32)), .val (.int p3), .val (.int p4), .val (.int p5), .val (.int p6), .val (.int (fex3_2 p3 p4 p5 p6 r0 r1 r2 r3))] [])) _
      refine XS.iload X0.here hx rfl (hb hby d4_34) rfl ?_
      show Steps p.tables e below (s₁.setTop (mkF m 36 #[.val (.ref a1), .val (.int (3 : Int32)), .val (.int p3), .val (.int p4), .val (.int p5), .val (.int p6), .val (.int (fex3_2 p3 p4 p5 p6 r0 r1 r2 r3))] [(.int p6)])) _
      refine XS.goto X0.here hx rfl (pc0 := 36) (pc' := 42) rfl (hb hby d4_36) (by decide) (by decide) ?_
      exact k
  obtain ⟨fs, hr, hrun, hended, hW, hsame⟩ := X0.leave (v := some (.int (fex3_3 p3 p4 p5 p6 r0 r1 r2 r3))) (fun h => by rw [Bd.returns] at h; cases h)
  refine ⟨_, _, ?_, hrun, hended, _, _, rfl, ?_, ⟨_, rfl⟩, hW, hsame.mono (by decide) (by decide)⟩
  · show Steps p.tables e below (s₁.setTop (mkF m 0 #[.val (.ref a1), .val (.int (3 : Int32)), .val (.int p3), .val (.int p4), .val (.int p5), .val (.int p6), .unset] [])) _
    refine XS.iloadN X0.here hx rfl (hb hby d4_0) rfl ?_
    show Steps p.tables e below (s₁.setTop (mkF m 1 #[.val (.ref a1), .val (.int (3 : Int32)), .val (.int p3), .val (.int p4), .val (.int p5), .val (.int p6), .unset] [(.int (3 : Int32))])) _
    refine XS.iloadN X0.here hx rfl (hb hby d4_1) rfl ?_
    show Steps p.tables e below (s₁.setTop (mkF m 2 #[.val (.ref a1), .val (.int (3 : Int32)), .val (.int p3), .val (.int p4), .val (.int p5), .val (.int p6), .unset] [(.int p3), (.int (3 : Int32))])) _
    refine st12 _ ?_
    show Steps p.tables e below (s₁.setTop (mkF m 27 #[.val (.ref a1), .val (.int (3 : Int32)), .val (.int p3), .val (.int p4), .val (.int p5), .val (.int p6), .unset] [(.int (fex3_2 p3 p4 p5 p6 r0 r1 r2 r3))])) _
    refine XS.istore X0.here hx rfl (hb hby d4_27) rfl (l' := #[.val (.ref a1), .val (.int (3 : Int32)), .val (.int p3), .val (.int p4), .val (.int p5), .val (.int p6), .val (.int (fex3_2 p3 p4 p5 p6 r0 r1 r2 r3))]) rfl ?_
    show Steps p.tables e below (s₁.setTop (mkF m 29 #[.val (.ref a1), .val (.int (3 : Int32)), .val (.int p3), .val (.int p4), .val (.int p5), .val (.int p6), .val (.int (fex3_2 p3 p4 p5 p6 r0 r1 r2 r3))] [])) _
    refine XS.iload X0.here hx rfl (hb hby d4_29) rfl ?_
    show Steps p.tables e below (s₁.setTop (mkF m 31 #[.val (.ref a1), .val (.int (3 : Int32)), .val (.int p3), .val (.int p4), .val (.int p5), .val (.int p6), .val (.int (fex3_2 p3 p4 p5 p6 r0 r1 r2 r3))] [(.int (fex3_2 p3 p4 p5 p6 r0 r1 r2 r3))])) _
    refine st15 _ ?_
    show Steps p.tables e below (s₁.setTop (mkF m 42 #[.val (.ref a1), .val (.int (3 : Int32)), .val (.int p3), .val (.int p4), .val (.int p5), .val (.int p6), .val (.int (fex3_2 p3 p4 p5 p6 r0 r1 r2 r3))] [(.int (fex3_3 p3 p4 p5 p6 r0 r1 r2 r3))])) _
    exact retI X0 hx Bd.returns (hb hby d4_42) hr
  · show Qex3 Z a1 p3 p4 p5 p6 k1 r0 r1 r2 r3 h0 n0 _ s₁.heap _
    rw [e0]
    have hf : fex3 p3 p4 p5 p6 r0 r1 r2 r3 = (fex3_3 p3 p4 p5 p6 r0 r1 r2 r3) := rfl
    exact ⟨by rw [hf], N0, rfl⟩
theorem pn_0 : plainName "com/example/bonn/bonn/ValueGroupsRootPinLaw" = true := by first | (simp [plainName, overriddenIn]; done) | decide +kernel
theorem ef_0 (m : MethodId) (p1 : Int32) (p2 : Int32) : entryFrame m #[(.int p1), (.int p2)] maxLocals = mkF m 0 #[.val (.int p1), .val (.int p2), .unset, .unset, .unset, .unset, .unset, .unset, .unset, .unset] [] := by first | (simp [entryFrame, mkF, argsToLocals, Value.category, maxLocals]; done) | rfl
def Q0 (Z : State) (p1 : Int32) (p2 : Int32) (h0 : Heap) (n0 : Nat) (v : Option Value) (h : Heap) (L : List Loc) : Prop := v = some (.int (1 : Int32)) ∧ Fr n0 L
set_option maxRecDepth 65536 in
set_option maxHeartbeats 40000000 in
theorem rm0 (l : Launch) (Z : State) (a0 : Array Value) (hw : ∀ d ∈ tables_1, d.before a0 Z = true) (ws : List Jvm.Cond) (p1 : Int32) (p2 : Int32) (h0 : Heap) (n0 : Nat) (Z0 : n0 ≤ h0.size) :
    MetFree l x (head1 (Jvm.Cond.code x code maxLocals ret :: ws) room_1) (fun a U => a = #[(.int p1), (.int p2)] ∧ Z.Warmed39 U.vm ∧ U.heap = h0) (fun _ _ _ _ _ => True) (fun _ U o U' => ∃ v L, o = .returned v ∧ Q0 Z p1 p2 h0 n0 v U'.heap L ∧ FrameEnd U o U' L room_1.cells room_1.slots) := by
  refine MetFree.of_bodySF (plainFor_of_name pn_0) hisR ?_
  intro p e s m args below meth c s₁ Bd hml0 hP hK
  obtain ⟨rfl, hZ, hh⟩ := hP
  have hx := Bd.exec
  have hby := Bd.bytes
  have hml : c.maxLocals = 10 := hml0
  have hown : s.vm.findClass "com/example/bonn/bonn/ValueGroupsRootPinLaw" = some m.cls := findClass_of_methodNamed Bd.named
  have hnm := (name_of_methodNamed Bd.named Bd.method).1
  have X0 : Stand p l e room_1 s m #[(.int p1), (.int p2)] below meth c s₁ [] 0 0 := Stand.of_body Bd
  have e0 : s₁.heap = h0 := by rw [← hh, Bd.state]; rfl
  have N0 := Fr.nil n0
  have pre0 : ∀ t, Steps p.tables e below (s₁.setTop (mkF m 0 #[.val (.int p1), .val (.int p2), .unset, .unset, .unset, .unset, .unset, .unset, .unset, .unset] [])) t → Steps p.tables e below (s₁.setTop (entryFrame m #[(.int p1), (.int p2)] maxLocals)) t := fun t k => castTop (ef_0 m p1 p2) k
  refine own_step (Q := fun o U' => ∃ v L, o = .returned v ∧ Q0 Z p1 p2 h0 n0 v U'.heap L ∧ FrameEnd s o U' L room_1.cells room_1.slots) pre0 ?_
  have K0 : Keep h0 h0 [] := Keep.refl h0 []
  obtain ⟨T1, h1, kc1, X1, e1, E1, A1, st1⟩ := newP X0 hx hZ (hw _ (List.mem_of_getElem? (i := 0) rfl)) e0 (g := (mkF m 1 #[.val (.int p1), .val (.int p2), .unset, .unset, .unset, .unset, .unset, .unset, .unset, .unset] [(.int (4 : Int32))])) rfl (hb hby at_1) (n := (4 : Int32)) (rest := []) rfl (by decide) (cap := 4) (by decide) (by decide) (by decide) (by decide)
  obtain ⟨o1, g1⟩ : ∃ z, z = h0.size := ⟨_, rfl⟩
  rw [← g1] at A1 st1
  have ge1 : n0 ≤ o1 := Nat.le_trans Z0 (Nat.le_of_eq g1.symm)
  have Z1 : n0 ≤ h1.size := Nat.le_trans Z0 E1.1
  have sz1 : h0.size ≤ o1 := Nat.le_trans K0.1 (Nat.le_of_eq g1.symm)
  have K1 := K0.ext E1
  have V1 : Arv Z h1 o1 kc1 .int (4 : Int32) [(.int (0 : Int32)), (.int (0 : Int32)), (.int (0 : Int32)), (.int (0 : Int32))] (.int (0 : Int32)) := (Arv.new A1 (by decide)).pad (pad_rep [] (.int (0 : Int32)) 4)
  obtain ⟨cl2, Ar2, q2, S2, M2, H2, G2⟩ := id V1
  obtain ⟨T2, h2, X2, e2, W2, st2⟩ := stI X1 hx hZ e1 Ar2 (j := (0 : Int32)) (inb_of S2 (by decide)) (g := (mkF m 9 #[.val (.int p1), .val (.int p2), .val (.ref o1), .unset, .unset, .unset, .unset, .unset, .unset, .unset] [(.int (p1 &&& (3 : Int32))), (.int (0 : Int32)), (.ref o1)])) rfl rfl (hb hby at_9)
  have K2 := K1.wr W2 (Or.inr sz1)
  have Z2 : n0 ≤ h2.size := Nat.le_trans Z1 (Keep.of_wr W2).1
  have N2 := Fr.snoc X2 N0 ge1
  have V2 : Arv Z h2 o1 kc1 .int (4 : Int32) [(.int (p1 &&& (3 : Int32))), (.int (0 : Int32)), (.int (0 : Int32)), (.int (0 : Int32))] (.int (0 : Int32)) := Arv.set Ar2 q2 S2 M2 H2 G2 rfl W2 0 (by decide) (by show 0 < 4; decide)
  obtain ⟨cl3, Ar3, q3, S3, M3, H3, G3⟩ := id V2
  obtain ⟨T3, h3, X3, e3, W3, st3⟩ := stI X2 hx hZ e2 Ar3 (j := (1 : Int32)) (inb_of S3 (by decide)) (g := (mkF m 17 #[.val (.int p1), .val (.int p2), .val (.ref o1), .unset, .unset, .unset, .unset, .unset, .unset, .unset] [(.int ((XT.ushr p1 (2 : Int32)) &&& (3 : Int32))), (.int (1 : Int32)), (.ref o1)])) rfl rfl (hb hby at_17)
  have K3 := K2.wr W3 (Or.inr sz1)
  have Z3 : n0 ≤ h3.size := Nat.le_trans Z2 (Keep.of_wr W3).1
  have N3 := Fr.snoc X3 N2 ge1
  have V3 : Arv Z h3 o1 kc1 .int (4 : Int32) [(.int (p1 &&& (3 : Int32))), (.int ((XT.ushr p1 (2 : Int32)) &&& (3 : Int32))), (.int (0 : Int32)), (.int (0 : Int32))] (.int (0 : Int32)) := Arv.set Ar3 q3 S3 M3 H3 G3 rfl W3 1 (by decide) (by show 1 < 4; decide)
  obtain ⟨cl4, Ar4, q4, S4, M4, H4, G4⟩ := id V3
  obtain ⟨T4, h4, X4, e4, W4, st4⟩ := stI X3 hx hZ e3 Ar4 (j := (2 : Int32)) (inb_of S4 (by decide)) (g := (mkF m 25 #[.val (.int p1), .val (.int p2), .val (.ref o1), .unset, .unset, .unset, .unset, .unset, .unset, .unset] [(.int ((XT.ushr p1 (4 : Int32)) &&& (3 : Int32))), (.int (2 : Int32)), (.ref o1)])) rfl rfl (hb hby at_25)
  have K4 := K3.wr W4 (Or.inr sz1)
  have Z4 : n0 ≤ h4.size := Nat.le_trans Z3 (Keep.of_wr W4).1
  have N4 := Fr.snoc X4 N3 ge1
  have V4 : Arv Z h4 o1 kc1 .int (4 : Int32) [(.int (p1 &&& (3 : Int32))), (.int ((XT.ushr p1 (2 : Int32)) &&& (3 : Int32))), (.int ((XT.ushr p1 (4 : Int32)) &&& (3 : Int32))), (.int (0 : Int32))] (.int (0 : Int32)) := Arv.set Ar4 q4 S4 M4 H4 G4 rfl W4 2 (by decide) (by show 2 < 4; decide)
  obtain ⟨cl5, Ar5, q5, S5, M5, H5, G5⟩ := id V4
  obtain ⟨T5, h5, X5, e5, W5, st5⟩ := stI X4 hx hZ e4 Ar5 (j := (3 : Int32)) (inb_of S5 (by decide)) (g := (mkF m 34 #[.val (.int p1), .val (.int p2), .val (.ref o1), .unset, .unset, .unset, .unset, .unset, .unset, .unset] [(.int ((XT.ushr p1 (6 : Int32)) &&& (3 : Int32))), (.int (3 : Int32)), (.ref o1)])) rfl rfl (hb hby at_34)
  have K5 := K4.wr W5 (Or.inr sz1)
  have Z5 : n0 ≤ h5.size := Nat.le_trans Z4 (Keep.of_wr W5).1
  have N5 := Fr.snoc X5 N4 ge1
  have V5 : Arv Z h5 o1 kc1 .int (4 : Int32) [(.int (p1 &&& (3 : Int32))), (.int ((XT.ushr p1 (2 : Int32)) &&& (3 : Int32))), (.int ((XT.ushr p1 (4 : Int32)) &&& (3 : Int32))), (.int ((XT.ushr p1 (6 : Int32)) &&& (3 : Int32)))] (.int (0 : Int32)) := Arv.set Ar5 q5 S5 M5 H5 G5 rfl W5 3 (by decide) (by show 3 < 4; decide)
  obtain ⟨T6, h6, kc6, X6, e6, E6, A6, st6⟩ := newP X5 hx hZ (hw _ (List.mem_of_getElem? (i := 0) rfl)) e5 (g := (mkF m 36 #[.val (.int p1), .val (.int p2), .val (.ref o1), .unset, .unset, .unset, .unset, .unset, .unset, .unset] [(.int (4 : Int32))])) rfl (hb hby at_36) (n := (4 : Int32)) (rest := []) rfl (by decide) (cap := 4) (by decide) (by decide) (by decide) (by decide)
  obtain ⟨o6, g6⟩ : ∃ z, z = h5.size := ⟨_, rfl⟩
  rw [← g6] at A6 st6
  have ne6_1 : o1 ≠ o6 := Nat.ne_of_lt (Nat.lt_of_lt_of_le V5.lt (Nat.le_of_eq g6.symm))
  have u6_0 := V5.ext E6
  have ge6 : n0 ≤ o6 := Nat.le_trans Z5 (Nat.le_of_eq g6.symm)
  have Z6 : n0 ≤ h6.size := Nat.le_trans Z5 E6.1
  have sz6 : h0.size ≤ o6 := Nat.le_trans K5.1 (Nat.le_of_eq g6.symm)
  have K6 := K5.ext E6
  have V6 : Arv Z h6 o6 kc6 .int (4 : Int32) [(.int (0 : Int32)), (.int (0 : Int32)), (.int (0 : Int32)), (.int (0 : Int32))] (.int (0 : Int32)) := (Arv.new A6 (by decide)).pad (pad_rep [] (.int (0 : Int32)) 4)
  obtain ⟨_, _, ⟨T7, L7, k7, n7⟩, -, X7, ⟨Lc7, hQ7, l7, y7, z7⟩, st7⟩ := Jvm.LawKit.callS X6 hx (y := (⟨"com/example/bonn/bonn/ValueGroupsRootPinLaw", "onCycle", "([II)Z"⟩ : MethodName)) hown (mvT hZ (hw _ (List.mem_of_getElem? (i := 1) rfl))) (mvT hZ (hw _ (List.mem_of_getElem? (i := 2) rfl))) (mvT hZ (hw _ (List.mem_of_getElem? (i := 3) rfl))) (mvT hZ (hw _ (List.mem_of_getElem? (i := 4) rfl))) (by decide) (backOf (W := 2) (rm1 l Z a0 hw [] o1 (0 : Int32) kc1 (p1 &&& (3 : Int32)) ((XT.ushr p1 (2 : Int32)) &&& (3 : Int32)) ((XT.ushr p1 (4 : Int32)) &&& (3 : Int32)) ((XT.ushr p1 (6 : Int32)) &&& (3 : Int32)) h6 n0 Z6 u6_0 (by decide) (own_and3 _) (own_and3 _) (own_and3 _) (own_and3 _)) hZ (hw _ (List.mem_of_getElem? (i := 4) rfl)) (hw _ (List.mem_of_getElem? (i := 3) rfl)) (by decide) (by decide)) (g := (mkF m 43 #[.val (.int p1), .val (.int p2), .val (.ref o1), .val (.ref o6), .unset, .unset, .unset, .unset, .unset, .unset] [(.int (0 : Int32)), (.ref o1), (.int (0 : Int32)), (.ref o6)])) rfl (by rw [hml]; rfl) (argsL := [(.ref o1), (.int (0 : Int32))]) (rest := [(.int (0 : Int32)), (.ref o6)]) (lenOf pd_1 rfl) rfl (by show 2 * 0 + _ ≤ _; exact Nat.le_of_eq rfl) (hb hby at_43) (fun _ _ => ⟨rfl, e6, (by decide : 2 + 0 ≤ _), (by decide : 8 + 0 ≤ _)⟩)
  dsimp only [Pt.U, Pt.locs, Pt.cells, Pt.slots] at X7 l7 y7 z7 st7 hQ7
  subst l7 y7 z7
  obtain ⟨rfl, N7q, e7⟩ := hQ7
  have N7 := Fr.app N5 N7q
  have st10 : ∀ t, Steps p.tables e below (T7.setTop (mkF m 56 #[.val (.int p1), .val (.int p2), .val (.ref o1), .val (.ref o6), .unset, .unset, .unset, .unset, .unset, .unset] [(.int (f0_1 p1 p2)), (.int (0 : Int32)), (.ref o6)])) t → Steps p.tables e below (T7.setTop (mkF m 46 #[.val (.int p1), .val (.int p2), .val (.ref o1), .val (.ref o6), .unset, .unset, .unset, .unset, .unset, .unset] [(.int (f0_0 p1 p2)), (.int (0 : Int32)), (.ref o6)])) t := by
    intro t k
    by_cases h8 : (f0_0 p1 p2) = (0 : Int32)
    · obtain ⟨cl9, Ar9, -, S9, M9, H9, -⟩ := id u6_0
      have hin9 := inb_of (j := (0 : Int32)) S9 (by decide)
      have hat9 := H9.at hin9 (v := (.int (p1 &&& (3 : Int32)))) (rfl)
      rw [show (f0_1 p1 p2) = (p1 &&& (3 : Int32)) from if_pos h8] at k
      show Steps p.tables e below (T7.setTop (mkF m 46 #[.val (.int p1), .val (.int p2), .val (.ref o1), .val (.ref o6), .unset, .unset, .unset, .unset, .unset, .unset] [(.int (f0_0 p1 p2)), (.int (0 : Int32)), (.ref o6)])) _
      refine XS.ifYes X7.here hx rfl (pc0 := 46) (pc' := 53) rfl (hb hby at_46) rfl ((if0 _ _).trans (teq h8).1) (by decide) (by decide) ?_
      show Steps p.tables e below (T7.setTop (mkF m 53 #[.val (.int p1), .val (.int p2), .val (.ref o1), .val (.ref o6), .unset, .unset, .unset, .unset, .unset, .unset] [(.int (0 : Int32)), (.ref o6)])) _
      refine XS.aloadN X7.here hx rfl (hb hby at_53) rfl rfl ?_
      show Steps p.tables e below (T7.setTop (mkF m 54 #[.val (.int p1), .val (.int p2), .val (.ref o1), .val (.ref o6), .unset, .unset, .unset, .unset, .unset, .unset] [(.ref o1), (.int (0 : Int32)), (.ref o6)])) _
      refine XS.iconst X7.here hx rfl (hb hby at_54) ?_
      show Steps p.tables e below (T7.setTop (mkF m 55 #[.val (.int p1), .val (.int p2), .val (.ref o1), .val (.ref o6), .unset, .unset, .unset, .unset, .unset, .unset] [(.int (0 : Int32)), (.ref o1), (.int (0 : Int32)), (.ref o6)])) _
      refine X7.iaload hx (j := (0 : Int32)) (v := (.int (p1 &&& (3 : Int32)))) (by rw [e7]; exact Ar9.1) (State.isArrayOf_alike hZ.alike Ar9.2.1) Ar9.2.2 hin9 hat9 (g := (mkF m 55 #[.val (.int p1), .val (.int p2), .val (.ref o1), .val (.ref o6), .unset, .unset, .unset, .unset, .unset, .unset] [(.int (0 : Int32)), (.ref o1), (.int (0 : Int32)), (.ref o6)])) rfl rfl (hb hby at_55) _ ?_
      exact k
    · rw [show (f0_1 p1 p2) = (0 : Int32) from if_neg h8] at k
      show Steps p.tables e below (T7.setTop (mkF m 46 #[.val (.int p1), .val (.int p2), .val (.ref o1), .val (.ref o6), .unset, .unset, .unset, .unset, .unset, .unset] [(.int (f0_0 p1 p2)), (.int (0 : Int32)), (.ref o6)])) _
      refine XS.ifNo X7.here hx rfl (hb hby at_46) rfl ((if0 _ _).trans (feq h8).1) ?_
      show Steps p.tables e below (T7.setTop (mkF m 49 #[.val (.int p1), .val (.int p2), .val (.ref o1), .val (.ref o6), .unset, .unset, .unset, .unset, .unset, .unset] [(.int (0 : Int32)), (.ref o6)])) _
      refine XS.iconst X7.here hx rfl (hb hby at_49) ?_
      show Steps p.tables e below (T7.setTop (mkF m 50 #[.val (.int p1), .val (.int p2), .val (.ref o1), .val (.ref o6), .unset, .unset, .unset, .unset, .unset, .unset] [(.int (0 : Int32)), (.int (0 : Int32)), (.ref o6)])) _
      refine XS.goto X7.here hx rfl (pc0 := 50) (pc' := 56) rfl (hb hby at_50) (by decide) (by decide) ?_
      exact k
  obtain ⟨cl11, Ar11, q11, S11, M11, H11, G11⟩ := id V6
  obtain ⟨T11, h11, X11, e11, W11, st11⟩ := stI X7 hx hZ e7 Ar11 (j := (0 : Int32)) (inb_of S11 (by decide)) (g := (mkF m 56 #[.val (.int p1), .val (.int p2), .val (.ref o1), .val (.ref o6), .unset, .unset, .unset, .unset, .unset, .unset] [(.int (f0_1 p1 p2)), (.int (0 : Int32)), (.ref o6)])) rfl rfl (hb hby at_56)
  have u11_0 := u6_0.other W11 ne6_1
  have K11 := K6.wr W11 (Or.inr sz6)
  have Z11 : n0 ≤ h11.size := Nat.le_trans Z6 (Keep.of_wr W11).1
  have N11 := Fr.snoc X11 N7 ge6
  have V11 : Arv Z h11 o6 kc6 .int (4 : Int32) [(.int (f0_1 p1 p2)), (.int (0 : Int32)), (.int (0 : Int32)), (.int (0 : Int32))] (.int (0 : Int32)) := Arv.set Ar11 q11 S11 M11 H11 G11 rfl W11 0 (by decide) (by show 0 < 4; decide)
  obtain ⟨_, _, ⟨T12, L12, k12, n12⟩, -, X12, ⟨Lc12, hQ12, l12, y12, z12⟩, st12⟩ := Jvm.LawKit.callS X11 hx (y := (⟨"com/example/bonn/bonn/ValueGroupsRootPinLaw", "onCycle", "([II)Z"⟩ : MethodName)) hown (mvT hZ (hw _ (List.mem_of_getElem? (i := 1) rfl))) (mvT hZ (hw _ (List.mem_of_getElem? (i := 2) rfl))) (mvT hZ (hw _ (List.mem_of_getElem? (i := 3) rfl))) (mvT hZ (hw _ (List.mem_of_getElem? (i := 4) rfl))) (by decide) (backOf (W := 2) (rm1 l Z a0 hw [] o1 (1 : Int32) kc1 (p1 &&& (3 : Int32)) ((XT.ushr p1 (2 : Int32)) &&& (3 : Int32)) ((XT.ushr p1 (4 : Int32)) &&& (3 : Int32)) ((XT.ushr p1 (6 : Int32)) &&& (3 : Int32)) h11 n0 Z11 u11_0 (by decide) (own_and3 _) (own_and3 _) (own_and3 _) (own_and3 _)) hZ (hw _ (List.mem_of_getElem? (i := 4) rfl)) (hw _ (List.mem_of_getElem? (i := 3) rfl)) (by decide) (by decide)) (g := (mkF m 61 #[.val (.int p1), .val (.int p2), .val (.ref o1), .val (.ref o6), .unset, .unset, .unset, .unset, .unset, .unset] [(.int (1 : Int32)), (.ref o1), (.int (1 : Int32)), (.ref o6)])) rfl (by rw [hml]; rfl) (argsL := [(.ref o1), (.int (1 : Int32))]) (rest := [(.int (1 : Int32)), (.ref o6)]) (lenOf pd_1 rfl) rfl (by show 2 * 0 + _ ≤ _; exact Nat.le_of_eq rfl) (hb hby at_61) (fun _ _ => ⟨rfl, e11, (by decide : 2 + 0 ≤ _), (by decide : 8 + 0 ≤ _)⟩)
  dsimp only [Pt.U, Pt.locs, Pt.cells, Pt.slots] at X12 l12 y12 z12 st12 hQ12
  subst l12 y12 z12
  obtain ⟨rfl, N12q, e12⟩ := hQ12
  have N12 := Fr.app N11 N12q
  have st15 : ∀ t, Steps p.tables e below (T12.setTop (mkF m 74 #[.val (.int p1), .val (.int p2), .val (.ref o1), .val (.ref o6), .unset, .unset, .unset, .unset, .unset, .unset] [(.int (f0_3 p1 p2)), (.int (1 : Int32)), (.ref o6)])) t → Steps p.tables e below (T12.setTop (mkF m 64 #[.val (.int p1), .val (.int p2), .val (.ref o1), .val (.ref o6), .unset, .unset, .unset, .unset, .unset, .unset] [(.int (f0_2 p1 p2)), (.int (1 : Int32)), (.ref o6)])) t := by
    intro t k
    by_cases h13 : (f0_2 p1 p2) = (0 : Int32)
    · obtain ⟨cl14, Ar14, -, S14, M14, H14, -⟩ := id u11_0
      have hin14 := inb_of (j := (1 : Int32)) S14 (by decide)
      have hat14 := H14.at hin14 (v := (.int ((XT.ushr p1 (2 : Int32)) &&& (3 : Int32)))) (rfl)
      rw [show (f0_3 p1 p2) = ((XT.ushr p1 (2 : Int32)) &&& (3 : Int32)) from if_pos h13] at k
      show Steps p.tables e below (T12.setTop (mkF m 64 #[.val (.int p1), .val (.int p2), .val (.ref o1), .val (.ref o6), .unset, .unset, .unset, .unset, .unset, .unset] [(.int (f0_2 p1 p2)), (.int (1 : Int32)), (.ref o6)])) _
      refine XS.ifYes X12.here hx rfl (pc0 := 64) (pc' := 71) rfl (hb hby at_64) rfl ((if0 _ _).trans (teq h13).1) (by decide) (by decide) ?_
      show Steps p.tables e below (T12.setTop (mkF m 71 #[.val (.int p1), .val (.int p2), .val (.ref o1), .val (.ref o6), .unset, .unset, .unset, .unset, .unset, .unset] [(.int (1 : Int32)), (.ref o6)])) _
      refine XS.aloadN X12.here hx rfl (hb hby at_71) rfl rfl ?_
      show Steps p.tables e below (T12.setTop (mkF m 72 #[.val (.int p1), .val (.int p2), .val (.ref o1), .val (.ref o6), .unset, .unset, .unset, .unset, .unset, .unset] [(.ref o1), (.int (1 : Int32)), (.ref o6)])) _
      refine XS.iconst X12.here hx rfl (hb hby at_72) ?_
      show Steps p.tables e below (T12.setTop (mkF m 73 #[.val (.int p1), .val (.int p2), .val (.ref o1), .val (.ref o6), .unset, .unset, .unset, .unset, .unset, .unset] [(.int (1 : Int32)), (.ref o1), (.int (1 : Int32)), (.ref o6)])) _
      refine X12.iaload hx (j := (1 : Int32)) (v := (.int ((XT.ushr p1 (2 : Int32)) &&& (3 : Int32)))) (by rw [e12]; exact Ar14.1) (State.isArrayOf_alike hZ.alike Ar14.2.1) Ar14.2.2 hin14 hat14 (g := (mkF m 73 #[.val (.int p1), .val (.int p2), .val (.ref o1), .val (.ref o6), .unset, .unset, .unset, .unset, .unset, .unset] [(.int (1 : Int32)), (.ref o1), (.int (1 : Int32)), (.ref o6)])) rfl rfl (hb hby at_73) _ ?_
      exact k
    · rw [show (f0_3 p1 p2) = (1 : Int32) from if_neg h13] at k
      show Steps p.tables e below (T12.setTop (mkF m 64 #[.val (.int p1), .val (.int p2), .val (.ref o1), .val (.ref o6), .unset, .unset, .unset, .unset, .unset, .unset] [(.int (f0_2 p1 p2)), (.int (1 : Int32)), (.ref o6)])) _
      refine XS.ifNo X12.here hx rfl (hb hby at_64) rfl ((if0 _ _).trans (feq h13).1) ?_
      show Steps p.tables e below (T12.setTop (mkF m 67 #[.val (.int p1), .val (.int p2), .val (.ref o1), .val (.ref o6), .unset, .unset, .unset, .unset, .unset, .unset] [(.int (1 : Int32)), (.ref o6)])) _
      refine XS.iconst X12.here hx rfl (hb hby at_67) ?_
      show Steps p.tables e below (T12.setTop (mkF m 68 #[.val (.int p1), .val (.int p2), .val (.ref o1), .val (.ref o6), .unset, .unset, .unset, .unset, .unset, .unset] [(.int (1 : Int32)), (.int (1 : Int32)), (.ref o6)])) _
      refine XS.goto X12.here hx rfl (pc0 := 68) (pc' := 74) rfl (hb hby at_68) (by decide) (by decide) ?_
      exact k
  obtain ⟨cl16, Ar16, q16, S16, M16, H16, G16⟩ := id V11
  obtain ⟨T16, h16, X16, e16, W16, st16⟩ := stI X12 hx hZ e12 Ar16 (j := (1 : Int32)) (inb_of S16 (by decide)) (g := (mkF m 74 #[.val (.int p1), .val (.int p2), .val (.ref o1), .val (.ref o6), .unset, .unset, .unset, .unset, .unset, .unset] [(.int (f0_3 p1 p2)), (.int (1 : Int32)), (.ref o6)])) rfl rfl (hb hby at_74)
  have u16_0 := u11_0.other W16 ne6_1
  have K16 := K11.wr W16 (Or.inr sz6)
  have Z16 : n0 ≤ h16.size := Nat.le_trans Z11 (Keep.of_wr W16).1
  have N16 := Fr.snoc X16 N12 ge6
  have V16 : Arv Z h16 o6 kc6 .int (4 : Int32) [(.int (f0_1 p1 p2)), (.int (f0_3 p1 p2)), (.int (0 : Int32)), (.int (0 : Int32))] (.int (0 : Int32)) := Arv.set Ar16 q16 S16 M16 H16 G16 rfl W16 1 (by decide) (by show 1 < 4; decide)
  obtain ⟨_, _, ⟨T17, L17, k17, n17⟩, -, X17, ⟨Lc17, hQ17, l17, y17, z17⟩, st17⟩ := Jvm.LawKit.callS X16 hx (y := (⟨"com/example/bonn/bonn/ValueGroupsRootPinLaw", "onCycle", "([II)Z"⟩ : MethodName)) hown (mvT hZ (hw _ (List.mem_of_getElem? (i := 1) rfl))) (mvT hZ (hw _ (List.mem_of_getElem? (i := 2) rfl))) (mvT hZ (hw _ (List.mem_of_getElem? (i := 3) rfl))) (mvT hZ (hw _ (List.mem_of_getElem? (i := 4) rfl))) (by decide) (backOf (W := 2) (rm1 l Z a0 hw [] o1 (2 : Int32) kc1 (p1 &&& (3 : Int32)) ((XT.ushr p1 (2 : Int32)) &&& (3 : Int32)) ((XT.ushr p1 (4 : Int32)) &&& (3 : Int32)) ((XT.ushr p1 (6 : Int32)) &&& (3 : Int32)) h16 n0 Z16 u16_0 (by decide) (own_and3 _) (own_and3 _) (own_and3 _) (own_and3 _)) hZ (hw _ (List.mem_of_getElem? (i := 4) rfl)) (hw _ (List.mem_of_getElem? (i := 3) rfl)) (by decide) (by decide)) (g := (mkF m 79 #[.val (.int p1), .val (.int p2), .val (.ref o1), .val (.ref o6), .unset, .unset, .unset, .unset, .unset, .unset] [(.int (2 : Int32)), (.ref o1), (.int (2 : Int32)), (.ref o6)])) rfl (by rw [hml]; rfl) (argsL := [(.ref o1), (.int (2 : Int32))]) (rest := [(.int (2 : Int32)), (.ref o6)]) (lenOf pd_1 rfl) rfl (by show 2 * 0 + _ ≤ _; exact Nat.le_of_eq rfl) (hb hby at_79) (fun _ _ => ⟨rfl, e16, (by decide : 2 + 0 ≤ _), (by decide : 8 + 0 ≤ _)⟩)
  dsimp only [Pt.U, Pt.locs, Pt.cells, Pt.slots] at X17 l17 y17 z17 st17 hQ17
  subst l17 y17 z17
  obtain ⟨rfl, N17q, e17⟩ := hQ17
  have N17 := Fr.app N16 N17q
  have st20 : ∀ t, Steps p.tables e below (T17.setTop (mkF m 92 #[.val (.int p1), .val (.int p2), .val (.ref o1), .val (.ref o6), .unset, .unset, .unset, .unset, .unset, .unset] [(.int (f0_5 p1 p2)), (.int (2 : Int32)), (.ref o6)])) t → Steps p.tables e below (T17.setTop (mkF m 82 #[.val (.int p1), .val (.int p2), .val (.ref o1), .val (.ref o6), .unset, .unset, .unset, .unset, .unset, .unset] [(.int (f0_4 p1 p2)), (.int (2 : Int32)), (.ref o6)])) t := by
    intro t k
    by_cases h18 : (f0_4 p1 p2) = (0 : Int32)
    · obtain ⟨cl19, Ar19, -, S19, M19, H19, -⟩ := id u16_0
      have hin19 := inb_of (j := (2 : Int32)) S19 (by decide)
      have hat19 := H19.at hin19 (v := (.int ((XT.ushr p1 (4 : Int32)) &&& (3 : Int32)))) (rfl)
      rw [show (f0_5 p1 p2) = ((XT.ushr p1 (4 : Int32)) &&& (3 : Int32)) from if_pos h18] at k
      show Steps p.tables e below (T17.setTop (mkF m 82 #[.val (.int p1), .val (.int p2), .val (.ref o1), .val (.ref o6), .unset, .unset, .unset, .unset, .unset, .unset] [(.int (f0_4 p1 p2)), (.int (2 : Int32)), (.ref o6)])) _
      refine XS.ifYes X17.here hx rfl (pc0 := 82) (pc' := 89) rfl (hb hby at_82) rfl ((if0 _ _).trans (teq h18).1) (by decide) (by decide) ?_
      show Steps p.tables e below (T17.setTop (mkF m 89 #[.val (.int p1), .val (.int p2), .val (.ref o1), .val (.ref o6), .unset, .unset, .unset, .unset, .unset, .unset] [(.int (2 : Int32)), (.ref o6)])) _
      refine XS.aloadN X17.here hx rfl (hb hby at_89) rfl rfl ?_
      show Steps p.tables e below (T17.setTop (mkF m 90 #[.val (.int p1), .val (.int p2), .val (.ref o1), .val (.ref o6), .unset, .unset, .unset, .unset, .unset, .unset] [(.ref o1), (.int (2 : Int32)), (.ref o6)])) _
      refine XS.iconst X17.here hx rfl (hb hby at_90) ?_
      show Steps p.tables e below (T17.setTop (mkF m 91 #[.val (.int p1), .val (.int p2), .val (.ref o1), .val (.ref o6), .unset, .unset, .unset, .unset, .unset, .unset] [(.int (2 : Int32)), (.ref o1), (.int (2 : Int32)), (.ref o6)])) _
      refine X17.iaload hx (j := (2 : Int32)) (v := (.int ((XT.ushr p1 (4 : Int32)) &&& (3 : Int32)))) (by rw [e17]; exact Ar19.1) (State.isArrayOf_alike hZ.alike Ar19.2.1) Ar19.2.2 hin19 hat19 (g := (mkF m 91 #[.val (.int p1), .val (.int p2), .val (.ref o1), .val (.ref o6), .unset, .unset, .unset, .unset, .unset, .unset] [(.int (2 : Int32)), (.ref o1), (.int (2 : Int32)), (.ref o6)])) rfl rfl (hb hby at_91) _ ?_
      exact k
    · rw [show (f0_5 p1 p2) = (2 : Int32) from if_neg h18] at k
      show Steps p.tables e below (T17.setTop (mkF m 82 #[.val (.int p1), .val (.int p2), .val (.ref o1), .val (.ref o6), .unset, .unset, .unset, .unset, .unset, .unset] [(.int (f0_4 p1 p2)), (.int (2 : Int32)), (.ref o6)])) _
      refine XS.ifNo X17.here hx rfl (hb hby at_82) rfl ((if0 _ _).trans (feq h18).1) ?_
      show Steps p.tables e below (T17.setTop (mkF m 85 #[.val (.int p1), .val (.int p2), .val (.ref o1), .val (.ref o6), .unset, .unset, .unset, .unset, .unset, .unset] [(.int (2 : Int32)), (.ref o6)])) _
      refine XS.iconst X17.here hx rfl (hb hby at_85) ?_
      show Steps p.tables e below (T17.setTop (mkF m 86 #[.val (.int p1), .val (.int p2), .val (.ref o1), .val (.ref o6), .unset, .unset, .unset, .unset, .unset, .unset] [(.int (2 : Int32)), (.int (2 : Int32)), (.ref o6)])) _
      refine XS.goto X17.here hx rfl (pc0 := 86) (pc' := 92) rfl (hb hby at_86) (by decide) (by decide) ?_
      exact k
  obtain ⟨cl21, Ar21, q21, S21, M21, H21, G21⟩ := id V16
  obtain ⟨T21, h21, X21, e21, W21, st21⟩ := stI X17 hx hZ e17 Ar21 (j := (2 : Int32)) (inb_of S21 (by decide)) (g := (mkF m 92 #[.val (.int p1), .val (.int p2), .val (.ref o1), .val (.ref o6), .unset, .unset, .unset, .unset, .unset, .unset] [(.int (f0_5 p1 p2)), (.int (2 : Int32)), (.ref o6)])) rfl rfl (hb hby at_92)
  have u21_0 := u16_0.other W21 ne6_1
  have K21 := K16.wr W21 (Or.inr sz6)
  have Z21 : n0 ≤ h21.size := Nat.le_trans Z16 (Keep.of_wr W21).1
  have N21 := Fr.snoc X21 N17 ge6
  have V21 : Arv Z h21 o6 kc6 .int (4 : Int32) [(.int (f0_1 p1 p2)), (.int (f0_3 p1 p2)), (.int (f0_5 p1 p2)), (.int (0 : Int32))] (.int (0 : Int32)) := Arv.set Ar21 q21 S21 M21 H21 G21 rfl W21 2 (by decide) (by show 2 < 4; decide)
  obtain ⟨_, _, ⟨T22, L22, k22, n22⟩, -, X22, ⟨Lc22, hQ22, l22, y22, z22⟩, st22⟩ := Jvm.LawKit.callS X21 hx (y := (⟨"com/example/bonn/bonn/ValueGroupsRootPinLaw", "onCycle", "([II)Z"⟩ : MethodName)) hown (mvT hZ (hw _ (List.mem_of_getElem? (i := 1) rfl))) (mvT hZ (hw _ (List.mem_of_getElem? (i := 2) rfl))) (mvT hZ (hw _ (List.mem_of_getElem? (i := 3) rfl))) (mvT hZ (hw _ (List.mem_of_getElem? (i := 4) rfl))) (by decide) (backOf (W := 2) (rm1 l Z a0 hw [] o1 (3 : Int32) kc1 (p1 &&& (3 : Int32)) ((XT.ushr p1 (2 : Int32)) &&& (3 : Int32)) ((XT.ushr p1 (4 : Int32)) &&& (3 : Int32)) ((XT.ushr p1 (6 : Int32)) &&& (3 : Int32)) h21 n0 Z21 u21_0 (by decide) (own_and3 _) (own_and3 _) (own_and3 _) (own_and3 _)) hZ (hw _ (List.mem_of_getElem? (i := 4) rfl)) (hw _ (List.mem_of_getElem? (i := 3) rfl)) (by decide) (by decide)) (g := (mkF m 97 #[.val (.int p1), .val (.int p2), .val (.ref o1), .val (.ref o6), .unset, .unset, .unset, .unset, .unset, .unset] [(.int (3 : Int32)), (.ref o1), (.int (3 : Int32)), (.ref o6)])) rfl (by rw [hml]; rfl) (argsL := [(.ref o1), (.int (3 : Int32))]) (rest := [(.int (3 : Int32)), (.ref o6)]) (lenOf pd_1 rfl) rfl (by show 2 * 0 + _ ≤ _; exact Nat.le_of_eq rfl) (hb hby at_97) (fun _ _ => ⟨rfl, e21, (by decide : 2 + 0 ≤ _), (by decide : 8 + 0 ≤ _)⟩)
  dsimp only [Pt.U, Pt.locs, Pt.cells, Pt.slots] at X22 l22 y22 z22 st22 hQ22
  subst l22 y22 z22
  obtain ⟨rfl, N22q, e22⟩ := hQ22
  have N22 := Fr.app N21 N22q
  have st25 : ∀ t, Steps p.tables e below (T22.setTop (mkF m 110 #[.val (.int p1), .val (.int p2), .val (.ref o1), .val (.ref o6), .unset, .unset, .unset, .unset, .unset, .unset] [(.int (f0_7 p1 p2)), (.int (3 : Int32)), (.ref o6)])) t → Steps p.tables e below (T22.setTop (mkF m 100 #[.val (.int p1), .val (.int p2), .val (.ref o1), .val (.ref o6), .unset, .unset, .unset, .unset, .unset, .unset] [(.int (f0_6 p1 p2)), (.int (3 : Int32)), (.ref o6)])) t := by
    intro t k
    by_cases h23 : (f0_6 p1 p2) = (0 : Int32)
    · obtain ⟨cl24, Ar24, -, S24, M24, H24, -⟩ := id u21_0
      have hin24 := inb_of (j := (3 : Int32)) S24 (by decide)
      have hat24 := H24.at hin24 (v := (.int ((XT.ushr p1 (6 : Int32)) &&& (3 : Int32)))) (rfl)
      rw [show (f0_7 p1 p2) = ((XT.ushr p1 (6 : Int32)) &&& (3 : Int32)) from if_pos h23] at k
      show Steps p.tables e below (T22.setTop (mkF m 100 #[.val (.int p1), .val (.int p2), .val (.ref o1), .val (.ref o6), .unset, .unset, .unset, .unset, .unset, .unset] [(.int (f0_6 p1 p2)), (.int (3 : Int32)), (.ref o6)])) _
      refine XS.ifYes X22.here hx rfl (pc0 := 100) (pc' := 107) rfl (hb hby at_100) rfl ((if0 _ _).trans (teq h23).1) (by decide) (by decide) ?_
      show Steps p.tables e below (T22.setTop (mkF m 107 #[.val (.int p1), .val (.int p2), .val (.ref o1), .val (.ref o6), .unset, .unset, .unset, .unset, .unset, .unset] [(.int (3 : Int32)), (.ref o6)])) _
      refine XS.aloadN X22.here hx rfl (hb hby at_107) rfl rfl ?_
      show Steps p.tables e below (T22.setTop (mkF m 108 #[.val (.int p1), .val (.int p2), .val (.ref o1), .val (.ref o6), .unset, .unset, .unset, .unset, .unset, .unset] [(.ref o1), (.int (3 : Int32)), (.ref o6)])) _
      refine XS.iconst X22.here hx rfl (hb hby at_108) ?_
      show Steps p.tables e below (T22.setTop (mkF m 109 #[.val (.int p1), .val (.int p2), .val (.ref o1), .val (.ref o6), .unset, .unset, .unset, .unset, .unset, .unset] [(.int (3 : Int32)), (.ref o1), (.int (3 : Int32)), (.ref o6)])) _
      refine X22.iaload hx (j := (3 : Int32)) (v := (.int ((XT.ushr p1 (6 : Int32)) &&& (3 : Int32)))) (by rw [e22]; exact Ar24.1) (State.isArrayOf_alike hZ.alike Ar24.2.1) Ar24.2.2 hin24 hat24 (g := (mkF m 109 #[.val (.int p1), .val (.int p2), .val (.ref o1), .val (.ref o6), .unset, .unset, .unset, .unset, .unset, .unset] [(.int (3 : Int32)), (.ref o1), (.int (3 : Int32)), (.ref o6)])) rfl rfl (hb hby at_109) _ ?_
      exact k
    · rw [show (f0_7 p1 p2) = (3 : Int32) from if_neg h23] at k
      show Steps p.tables e below (T22.setTop (mkF m 100 #[.val (.int p1), .val (.int p2), .val (.ref o1), .val (.ref o6), .unset, .unset, .unset, .unset, .unset, .unset] [(.int (f0_6 p1 p2)), (.int (3 : Int32)), (.ref o6)])) _
      refine XS.ifNo X22.here hx rfl (hb hby at_100) rfl ((if0 _ _).trans (feq h23).1) ?_
      show Steps p.tables e below (T22.setTop (mkF m 103 #[.val (.int p1), .val (.int p2), .val (.ref o1), .val (.ref o6), .unset, .unset, .unset, .unset, .unset, .unset] [(.int (3 : Int32)), (.ref o6)])) _
      refine XS.iconst X22.here hx rfl (hb hby at_103) ?_
      show Steps p.tables e below (T22.setTop (mkF m 104 #[.val (.int p1), .val (.int p2), .val (.ref o1), .val (.ref o6), .unset, .unset, .unset, .unset, .unset, .unset] [(.int (3 : Int32)), (.int (3 : Int32)), (.ref o6)])) _
      refine XS.goto X22.here hx rfl (pc0 := 104) (pc' := 110) rfl (hb hby at_104) (by decide) (by decide) ?_
      exact k
  obtain ⟨cl26, Ar26, q26, S26, M26, H26, G26⟩ := id V21
  obtain ⟨T26, h26, X26, e26, W26, st26⟩ := stI X22 hx hZ e22 Ar26 (j := (3 : Int32)) (inb_of S26 (by decide)) (g := (mkF m 110 #[.val (.int p1), .val (.int p2), .val (.ref o1), .val (.ref o6), .unset, .unset, .unset, .unset, .unset, .unset] [(.int (f0_7 p1 p2)), (.int (3 : Int32)), (.ref o6)])) rfl rfl (hb hby at_110)
  have u26_0 := u21_0.other W26 ne6_1
  have K26 := K21.wr W26 (Or.inr sz6)
  have Z26 : n0 ≤ h26.size := Nat.le_trans Z21 (Keep.of_wr W26).1
  have N26 := Fr.snoc X26 N22 ge6
  have V26 : Arv Z h26 o6 kc6 .int (4 : Int32) [(.int (f0_1 p1 p2)), (.int (f0_3 p1 p2)), (.int (f0_5 p1 p2)), (.int (f0_7 p1 p2))] (.int (0 : Int32)) := Arv.set Ar26 q26 S26 M26 H26 G26 rfl W26 3 (by decide) (by show 3 < 4; decide)
  obtain ⟨T27, h27, kc27, X27, e27, E27, A27, st27⟩ := newP X26 hx hZ (hw _ (List.mem_of_getElem? (i := 0) rfl)) e26 (g := (mkF m 112 #[.val (.int p1), .val (.int p2), .val (.ref o1), .val (.ref o6), .unset, .unset, .unset, .unset, .unset, .unset] [(.int (4 : Int32))])) rfl (hb hby at_112) (n := (4 : Int32)) (rest := []) rfl (by decide) (cap := 4) (by decide) (by decide) (by decide) (by decide)
  obtain ⟨o27, g27⟩ : ∃ z, z = h26.size := ⟨_, rfl⟩
  rw [← g27] at A27 st27
  have ne27_1 : o1 ≠ o27 := Nat.ne_of_lt (Nat.lt_of_lt_of_le u26_0.lt (Nat.le_of_eq g27.symm))
  have ne27_2 : o6 ≠ o27 := Nat.ne_of_lt (Nat.lt_of_lt_of_le V26.lt (Nat.le_of_eq g27.symm))
  have u27_0 := u26_0.ext E27
  have u27_1 := V26.ext E27
  have ge27 : n0 ≤ o27 := Nat.le_trans Z26 (Nat.le_of_eq g27.symm)
  have Z27 : n0 ≤ h27.size := Nat.le_trans Z26 E27.1
  have sz27 : h0.size ≤ o27 := Nat.le_trans K26.1 (Nat.le_of_eq g27.symm)
  have K27 := K26.ext E27
  have V27 : Arv Z h27 o27 kc27 .int (4 : Int32) [(.int (0 : Int32)), (.int (0 : Int32)), (.int (0 : Int32)), (.int (0 : Int32))] (.int (0 : Int32)) := (Arv.new A27 (by decide)).pad (pad_rep [] (.int (0 : Int32)) 4)
  obtain ⟨cl28, Ar28, -, S28, M28, H28, -⟩ := id u27_1
  have hin28 := inb_of (j := (0 : Int32)) S28 (by decide)
  have hat28 := H28.at hin28 (v := (.int (f0_1 p1 p2))) (rfl)
  obtain ⟨cl29, Ar29, q29, S29, M29, H29, G29⟩ := id V27
  obtain ⟨T29, h29, X29, e29, W29, st29⟩ := stI X27 hx hZ e27 Ar29 (j := (0 : Int32)) (inb_of S29 (by decide)) (g := (mkF m 122 #[.val (.int p1), .val (.int p2), .val (.ref o1), .val (.ref o6), .val (.ref o27), .unset, .unset, .unset, .unset, .unset] [(.int (f0_1 p1 p2)), (.int (0 : Int32)), (.ref o27)])) rfl rfl (hb hby at_122)
  have u29_0 := u27_0.other W29 ne27_1
  have u29_1 := u27_1.other W29 ne27_2
  have K29 := K27.wr W29 (Or.inr sz27)
  have Z29 : n0 ≤ h29.size := Nat.le_trans Z27 (Keep.of_wr W29).1
  have N29 := Fr.snoc X29 N26 ge27
  have V29 : Arv Z h29 o27 kc27 .int (4 : Int32) [(.int (f0_1 p1 p2)), (.int (0 : Int32)), (.int (0 : Int32)), (.int (0 : Int32))] (.int (0 : Int32)) := Arv.set Ar29 q29 S29 M29 H29 G29 rfl W29 0 (by decide) (by show 0 < 4; decide)
  obtain ⟨cl30, Ar30, -, S30, M30, H30, -⟩ := id u29_1
  have hin30 := inb_of (j := (1 : Int32)) S30 (by decide)
  have hat30 := H30.at hin30 (v := (.int (f0_3 p1 p2))) (rfl)
  obtain ⟨cl31, Ar31, q31, S31, M31, H31, G31⟩ := id V29
  obtain ⟨T31, h31, X31, e31, W31, st31⟩ := stI X29 hx hZ e29 Ar31 (j := (1 : Int32)) (inb_of S31 (by decide)) (g := (mkF m 129 #[.val (.int p1), .val (.int p2), .val (.ref o1), .val (.ref o6), .val (.ref o27), .unset, .unset, .unset, .unset, .unset] [(.int (f0_3 p1 p2)), (.int (1 : Int32)), (.ref o27)])) rfl rfl (hb hby at_129)
  have u31_0 := u29_0.other W31 ne27_1
  have u31_1 := u29_1.other W31 ne27_2
  have K31 := K29.wr W31 (Or.inr sz27)
  have Z31 : n0 ≤ h31.size := Nat.le_trans Z29 (Keep.of_wr W31).1
  have N31 := Fr.snoc X31 N29 ge27
  have V31 : Arv Z h31 o27 kc27 .int (4 : Int32) [(.int (f0_1 p1 p2)), (.int (f0_3 p1 p2)), (.int (0 : Int32)), (.int (0 : Int32))] (.int (0 : Int32)) := Arv.set Ar31 q31 S31 M31 H31 G31 rfl W31 1 (by decide) (by show 1 < 4; decide)
  obtain ⟨cl32, Ar32, -, S32, M32, H32, -⟩ := id u31_1
  have hin32 := inb_of (j := (2 : Int32)) S32 (by decide)
  have hat32 := H32.at hin32 (v := (.int (f0_5 p1 p2))) (rfl)
  obtain ⟨cl33, Ar33, q33, S33, M33, H33, G33⟩ := id V31
  obtain ⟨T33, h33, X33, e33, W33, st33⟩ := stI X31 hx hZ e31 Ar33 (j := (2 : Int32)) (inb_of S33 (by decide)) (g := (mkF m 136 #[.val (.int p1), .val (.int p2), .val (.ref o1), .val (.ref o6), .val (.ref o27), .unset, .unset, .unset, .unset, .unset] [(.int (f0_5 p1 p2)), (.int (2 : Int32)), (.ref o27)])) rfl rfl (hb hby at_136)
  have u33_0 := u31_0.other W33 ne27_1
  have u33_1 := u31_1.other W33 ne27_2
  have K33 := K31.wr W33 (Or.inr sz27)
  have Z33 : n0 ≤ h33.size := Nat.le_trans Z31 (Keep.of_wr W33).1
  have N33 := Fr.snoc X33 N31 ge27
  have V33 : Arv Z h33 o27 kc27 .int (4 : Int32) [(.int (f0_1 p1 p2)), (.int (f0_3 p1 p2)), (.int (f0_5 p1 p2)), (.int (0 : Int32))] (.int (0 : Int32)) := Arv.set Ar33 q33 S33 M33 H33 G33 rfl W33 2 (by decide) (by show 2 < 4; decide)
  obtain ⟨cl34, Ar34, -, S34, M34, H34, -⟩ := id u33_1
  have hin34 := inb_of (j := (3 : Int32)) S34 (by decide)
  have hat34 := H34.at hin34 (v := (.int (f0_7 p1 p2))) (rfl)
  obtain ⟨cl35, Ar35, q35, S35, M35, H35, G35⟩ := id V33
  obtain ⟨T35, h35, X35, e35, W35, st35⟩ := stI X33 hx hZ e33 Ar35 (j := (3 : Int32)) (inb_of S35 (by decide)) (g := (mkF m 143 #[.val (.int p1), .val (.int p2), .val (.ref o1), .val (.ref o6), .val (.ref o27), .unset, .unset, .unset, .unset, .unset] [(.int (f0_7 p1 p2)), (.int (3 : Int32)), (.ref o27)])) rfl rfl (hb hby at_143)
  have u35_0 := u33_0.other W35 ne27_1
  have u35_1 := u33_1.other W35 ne27_2
  have K35 := K33.wr W35 (Or.inr sz27)
  have Z35 : n0 ≤ h35.size := Nat.le_trans Z33 (Keep.of_wr W35).1
  have N35 := Fr.snoc X35 N33 ge27
  have V35 : Arv Z h35 o27 kc27 .int (4 : Int32) [(.int (f0_1 p1 p2)), (.int (f0_3 p1 p2)), (.int (f0_5 p1 p2)), (.int (f0_7 p1 p2))] (.int (0 : Int32)) := Arv.set Ar35 q35 S35 M35 H35 G35 rfl W35 3 (by decide) (by show 3 < 4; decide)
  obtain ⟨cl36, Ar36, -, S36, M36, H36, -⟩ := id u35_1
  have hj37 : own_in4 (p2 &&& (3 : Int32)) := own_and3 _
  have hin36 := inb_of (j := (p2 &&& (3 : Int32))) S36 (own_b4 hj37)
  have hat36 := H36.at hin36 (v := (.int (f0_8 p1 p2))) (own_rd4 hj37)
  obtain ⟨cl38, Ar38, -, S38, M38, H38, -⟩ := id u35_1
  have hj39 : own_in4 (f0_8 p1 p2) := own_gin (own_iin (own_and3 _) (by decide)) (own_iin (own_and3 _) (by decide)) (own_iin (own_and3 _) (by decide)) (own_iin (own_and3 _) (by decide))
  have hin38 := inb_of (j := (f0_8 p1 p2)) S38 (own_b4 hj39)
  have hat38 := H38.at hin38 (v := (.int (f0_9 p1 p2))) (own_rd4 hj39)
  obtain ⟨cl40, Ar40, -, S40, M40, H40, -⟩ := id u35_1
  have hj41 : own_in4 (f0_9 p1 p2) := own_gin (own_iin (own_and3 _) (by decide)) (own_iin (own_and3 _) (by decide)) (own_iin (own_and3 _) (by decide)) (own_iin (own_and3 _) (by decide))
  have hin40 := inb_of (j := (f0_9 p1 p2)) S40 (own_b4 hj41)
  have hat40 := H40.at hin40 (v := (.int (f0_10 p1 p2))) (own_rd4 hj41)
  obtain ⟨_, _, ⟨T42, L42, k42, n42⟩, -, X42, ⟨Lc42, hQ42, l42, y42, z42⟩, st42⟩ := Jvm.LawKit.callS X35 hx (y := (⟨"com/example/bonn/bonn/ValueGroups", "root", "(I[I)I"⟩ : MethodName)) hown (mvT hZ (hw _ (List.mem_of_getElem? (i := 8) rfl))) (mvT hZ (hw _ (List.mem_of_getElem? (i := 9) rfl))) (mvT hZ (hw _ (List.mem_of_getElem? (i := 10) rfl))) (mvT hZ (hw _ (List.mem_of_getElem? (i := 11) rfl))) (by decide) (backOf (W := 0) (rm3 l Z a0 hw [] (p2 &&& (3 : Int32)) o27 kc27 (f0_1 p1 p2) (f0_3 p1 p2) (f0_5 p1 p2) (f0_7 p1 p2) h35 n0 Z35 V35 ge27 (own_and3 _) (own_iin (own_and3 _) (by decide)) (own_iin (own_and3 _) (by decide)) (own_iin (own_and3 _) (by decide)) (own_iin (own_and3 _) (by decide)) (own_for p1 p2)) hZ (hw _ (List.mem_of_getElem? (i := 11) rfl)) (hw _ (List.mem_of_getElem? (i := 10) rfl)) (by decide) (by decide)) (g := (mkF m 171 #[.val (.int p1), .val (.int p2), .val (.ref o1), .val (.ref o6), .val (.ref o27), .val (.int (p2 &&& (3 : Int32))), .val (.int (f0_8 p1 p2)), .val (.int (f0_9 p1 p2)), .val (.int (f0_10 p1 p2)), .unset] [(.ref o27), (.int (p2 &&& (3 : Int32)))])) rfl (by rw [hml]; rfl) (argsL := [(.int (p2 &&& (3 : Int32))), (.ref o27)]) (rest := []) (lenOf pd_2 rfl) rfl (by show 2 * 0 + _ ≤ _; exact Nat.le_of_eq rfl) (hb hby at_171) (fun _ _ => ⟨rfl, e35, (by decide : 3 + 0 ≤ _), (by decide : 12 + 0 ≤ _)⟩)
  dsimp only [Pt.U, Pt.locs, Pt.cells, Pt.slots] at X42 l42 y42 z42 st42 hQ42
  subst l42 y42 z42
  obtain ⟨rfl, N42q, Kc42, c42_0⟩ := hQ42
  have N42 := Fr.app N35 N42q
  have u42_0 := u35_0.keep Kc42 (by simp only [List.mem_cons, List.not_mem_nil, or_false, not_or]; exact ne27_1)
  have u42_1 := u35_1.keep Kc42 (by simp only [List.mem_cons, List.not_mem_nil, or_false, not_or]; exact ne27_2)
  have K42 := K35.trans Kc42 (fun x hx => by cases List.mem_singleton.mp hx; exact Or.inr sz27)
  have Z42 : n0 ≤ T42.heap.size := Nat.le_trans Z35 Kc42.1
  have c42_0' : Arv Z T42.heap o27 kc27 .int (4 : Int32) [(.int (f0_11 p1 p2)), (.int (f0_12 p1 p2)), (.int (f0_13 p1 p2)), (.int (f0_14 p1 p2))] (.int (0 : Int32)) := c42_0
  refine own_step (B := T42.setTop (mkF m 180 #[.val (.int p1), .val (.int p2), .val (.ref o1), .val (.ref o6), .val (.ref o27), .val (.int (p2 &&& (3 : Int32))), .val (.int (f0_8 p1 p2)), .val (.int (f0_9 p1 p2)), .val (.int (f0_10 p1 p2)), .val (.int (f0_15 p1 p2))] [(.int (f0_10 p1 p2)), (.int (f0_15 p1 p2))])) (fun t k => ?_) ?_
  · show Steps p.tables e below (s₁.setTop (mkF m 0 #[.val (.int p1), .val (.int p2), .unset, .unset, .unset, .unset, .unset, .unset, .unset, .unset] [])) _
    refine XS.iconst X0.here hx rfl (hb hby at_0) ?_
    show Steps p.tables e below (s₁.setTop (mkF m 1 #[.val (.int p1), .val (.int p2), .unset, .unset, .unset, .unset, .unset, .unset, .unset, .unset] [(.int (4 : Int32))])) _
    refine st1 _ ?_
    show Steps p.tables e below (T1.setTop (mkF m 3 #[.val (.int p1), .val (.int p2), .unset, .unset, .unset, .unset, .unset, .unset, .unset, .unset] [(.ref o1)])) _
    refine XS.astoreN X1.here hx rfl (hb hby at_3) rfl rfl (l' := #[.val (.int p1), .val (.int p2), .val (.ref o1), .unset, .unset, .unset, .unset, .unset, .unset, .unset]) rfl ?_
    show Steps p.tables e below (T1.setTop (mkF m 4 #[.val (.int p1), .val (.int p2), .val (.ref o1), .unset, .unset, .unset, .unset, .unset, .unset, .unset] [])) _
    refine XS.aloadN X1.here hx rfl (hb hby at_4) rfl rfl ?_
    show Steps p.tables e below (T1.setTop (mkF m 5 #[.val (.int p1), .val (.int p2), .val (.ref o1), .unset, .unset, .unset, .unset, .unset, .unset, .unset] [(.ref o1)])) _
    refine XS.iconst X1.here hx rfl (hb hby at_5) ?_
    show Steps p.tables e below (T1.setTop (mkF m 6 #[.val (.int p1), .val (.int p2), .val (.ref o1), .unset, .unset, .unset, .unset, .unset, .unset, .unset] [(.int (0 : Int32)), (.ref o1)])) _
    refine XS.iloadN X1.here hx rfl (hb hby at_6) rfl ?_
    show Steps p.tables e below (T1.setTop (mkF m 7 #[.val (.int p1), .val (.int p2), .val (.ref o1), .unset, .unset, .unset, .unset, .unset, .unset, .unset] [(.int p1), (.int (0 : Int32)), (.ref o1)])) _
    refine XS.iconst X1.here hx rfl (hb hby at_7) ?_
    show Steps p.tables e below (T1.setTop (mkF m 8 #[.val (.int p1), .val (.int p2), .val (.ref o1), .unset, .unset, .unset, .unset, .unset, .unset, .unset] [(.int (3 : Int32)), (.int p1), (.int (0 : Int32)), (.ref o1)])) _
    refine XS.iand X1.here hx rfl (hb hby at_8) rfl ?_
    show Steps p.tables e below (T1.setTop (mkF m 9 #[.val (.int p1), .val (.int p2), .val (.ref o1), .unset, .unset, .unset, .unset, .unset, .unset, .unset] [(.int (p1 &&& (3 : Int32))), (.int (0 : Int32)), (.ref o1)])) _
    refine st2 _ ?_
    show Steps p.tables e below (T2.setTop (mkF m 10 #[.val (.int p1), .val (.int p2), .val (.ref o1), .unset, .unset, .unset, .unset, .unset, .unset, .unset] [])) _
    refine XS.aloadN X2.here hx rfl (hb hby at_10) rfl rfl ?_
    show Steps p.tables e below (T2.setTop (mkF m 11 #[.val (.int p1), .val (.int p2), .val (.ref o1), .unset, .unset, .unset, .unset, .unset, .unset, .unset] [(.ref o1)])) _
    refine XS.iconst X2.here hx rfl (hb hby at_11) ?_
    show Steps p.tables e below (T2.setTop (mkF m 12 #[.val (.int p1), .val (.int p2), .val (.ref o1), .unset, .unset, .unset, .unset, .unset, .unset, .unset] [(.int (1 : Int32)), (.ref o1)])) _
    refine XS.iloadN X2.here hx rfl (hb hby at_12) rfl ?_
    show Steps p.tables e below (T2.setTop (mkF m 13 #[.val (.int p1), .val (.int p2), .val (.ref o1), .unset, .unset, .unset, .unset, .unset, .unset, .unset] [(.int p1), (.int (1 : Int32)), (.ref o1)])) _
    refine XS.iconst X2.here hx rfl (hb hby at_13) ?_
    show Steps p.tables e below (T2.setTop (mkF m 14 #[.val (.int p1), .val (.int p2), .val (.ref o1), .unset, .unset, .unset, .unset, .unset, .unset, .unset] [(.int (2 : Int32)), (.int p1), (.int (1 : Int32)), (.ref o1)])) _
    refine XT.iushr X2.here hx rfl (hb hby at_14) rfl ?_
    show Steps p.tables e below (T2.setTop (mkF m 15 #[.val (.int p1), .val (.int p2), .val (.ref o1), .unset, .unset, .unset, .unset, .unset, .unset, .unset] [(.int (XT.ushr p1 (2 : Int32))), (.int (1 : Int32)), (.ref o1)])) _
    refine XS.iconst X2.here hx rfl (hb hby at_15) ?_
    show Steps p.tables e below (T2.setTop (mkF m 16 #[.val (.int p1), .val (.int p2), .val (.ref o1), .unset, .unset, .unset, .unset, .unset, .unset, .unset] [(.int (3 : Int32)), (.int (XT.ushr p1 (2 : Int32))), (.int (1 : Int32)), (.ref o1)])) _
    refine XS.iand X2.here hx rfl (hb hby at_16) rfl ?_
    show Steps p.tables e below (T2.setTop (mkF m 17 #[.val (.int p1), .val (.int p2), .val (.ref o1), .unset, .unset, .unset, .unset, .unset, .unset, .unset] [(.int ((XT.ushr p1 (2 : Int32)) &&& (3 : Int32))), (.int (1 : Int32)), (.ref o1)])) _
    refine st3 _ ?_
    show Steps p.tables e below (T3.setTop (mkF m 18 #[.val (.int p1), .val (.int p2), .val (.ref o1), .unset, .unset, .unset, .unset, .unset, .unset, .unset] [])) _
    refine XS.aloadN X3.here hx rfl (hb hby at_18) rfl rfl ?_
    show Steps p.tables e below (T3.setTop (mkF m 19 #[.val (.int p1), .val (.int p2), .val (.ref o1), .unset, .unset, .unset, .unset, .unset, .unset, .unset] [(.ref o1)])) _
    refine XS.iconst X3.here hx rfl (hb hby at_19) ?_
    show Steps p.tables e below (T3.setTop (mkF m 20 #[.val (.int p1), .val (.int p2), .val (.ref o1), .unset, .unset, .unset, .unset, .unset, .unset, .unset] [(.int (2 : Int32)), (.ref o1)])) _
    refine XS.iloadN X3.here hx rfl (hb hby at_20) rfl ?_
    show Steps p.tables e below (T3.setTop (mkF m 21 #[.val (.int p1), .val (.int p2), .val (.ref o1), .unset, .unset, .unset, .unset, .unset, .unset, .unset] [(.int p1), (.int (2 : Int32)), (.ref o1)])) _
    refine XS.iconst X3.here hx rfl (hb hby at_21) ?_
    show Steps p.tables e below (T3.setTop (mkF m 22 #[.val (.int p1), .val (.int p2), .val (.ref o1), .unset, .unset, .unset, .unset, .unset, .unset, .unset] [(.int (4 : Int32)), (.int p1), (.int (2 : Int32)), (.ref o1)])) _
    refine XT.iushr X3.here hx rfl (hb hby at_22) rfl ?_
    show Steps p.tables e below (T3.setTop (mkF m 23 #[.val (.int p1), .val (.int p2), .val (.ref o1), .unset, .unset, .unset, .unset, .unset, .unset, .unset] [(.int (XT.ushr p1 (4 : Int32))), (.int (2 : Int32)), (.ref o1)])) _
    refine XS.iconst X3.here hx rfl (hb hby at_23) ?_
    show Steps p.tables e below (T3.setTop (mkF m 24 #[.val (.int p1), .val (.int p2), .val (.ref o1), .unset, .unset, .unset, .unset, .unset, .unset, .unset] [(.int (3 : Int32)), (.int (XT.ushr p1 (4 : Int32))), (.int (2 : Int32)), (.ref o1)])) _
    refine XS.iand X3.here hx rfl (hb hby at_24) rfl ?_
    show Steps p.tables e below (T3.setTop (mkF m 25 #[.val (.int p1), .val (.int p2), .val (.ref o1), .unset, .unset, .unset, .unset, .unset, .unset, .unset] [(.int ((XT.ushr p1 (4 : Int32)) &&& (3 : Int32))), (.int (2 : Int32)), (.ref o1)])) _
    refine st4 _ ?_
    show Steps p.tables e below (T4.setTop (mkF m 26 #[.val (.int p1), .val (.int p2), .val (.ref o1), .unset, .unset, .unset, .unset, .unset, .unset, .unset] [])) _
    refine XS.aloadN X4.here hx rfl (hb hby at_26) rfl rfl ?_
    show Steps p.tables e below (T4.setTop (mkF m 27 #[.val (.int p1), .val (.int p2), .val (.ref o1), .unset, .unset, .unset, .unset, .unset, .unset, .unset] [(.ref o1)])) _
    refine XS.iconst X4.here hx rfl (hb hby at_27) ?_
    show Steps p.tables e below (T4.setTop (mkF m 28 #[.val (.int p1), .val (.int p2), .val (.ref o1), .unset, .unset, .unset, .unset, .unset, .unset, .unset] [(.int (3 : Int32)), (.ref o1)])) _
    refine XS.iloadN X4.here hx rfl (hb hby at_28) rfl ?_
    show Steps p.tables e below (T4.setTop (mkF m 29 #[.val (.int p1), .val (.int p2), .val (.ref o1), .unset, .unset, .unset, .unset, .unset, .unset, .unset] [(.int p1), (.int (3 : Int32)), (.ref o1)])) _
    refine XS.bipush X4.here hx rfl (hb hby at_29) ?_
    show Steps p.tables e below (T4.setTop (mkF m 31 #[.val (.int p1), .val (.int p2), .val (.ref o1), .unset, .unset, .unset, .unset, .unset, .unset, .unset] [(.int (6 : Int32)), (.int p1), (.int (3 : Int32)), (.ref o1)])) _
    refine XT.iushr X4.here hx rfl (hb hby at_31) rfl ?_
    show Steps p.tables e below (T4.setTop (mkF m 32 #[.val (.int p1), .val (.int p2), .val (.ref o1), .unset, .unset, .unset, .unset, .unset, .unset, .unset] [(.int (XT.ushr p1 (6 : Int32))), (.int (3 : Int32)), (.ref o1)])) _
    refine XS.iconst X4.here hx rfl (hb hby at_32) ?_
    show Steps p.tables e below (T4.setTop (mkF m 33 #[.val (.int p1), .val (.int p2), .val (.ref o1), .unset, .unset, .unset, .unset, .unset, .unset, .unset] [(.int (3 : Int32)), (.int (XT.ushr p1 (6 : Int32))), (.int (3 : Int32)), (.ref o1)])) _
    refine XS.iand X4.here hx rfl (hb hby at_33) rfl ?_
    show Steps p.tables e below (T4.setTop (mkF m 34 #[.val (.int p1), .val (.int p2), .val (.ref o1), .unset, .unset, .unset, .unset, .unset, .unset, .unset] [(.int ((XT.ushr p1 (6 : Int32)) &&& (3 : Int32))), (.int (3 : Int32)), (.ref o1)])) _
    refine st5 _ ?_
    show Steps p.tables e below (T5.setTop (mkF m 35 #[.val (.int p1), .val (.int p2), .val (.ref o1), .unset, .unset, .unset, .unset, .unset, .unset, .unset] [])) _
    refine XS.iconst X5.here hx rfl (hb hby at_35) ?_
    show Steps p.tables e below (T5.setTop (mkF m 36 #[.val (.int p1), .val (.int p2), .val (.ref o1), .unset, .unset, .unset, .unset, .unset, .unset, .unset] [(.int (4 : Int32))])) _
    refine st6 _ ?_
    show Steps p.tables e below (T6.setTop (mkF m 38 #[.val (.int p1), .val (.int p2), .val (.ref o1), .unset, .unset, .unset, .unset, .unset, .unset, .unset] [(.ref o6)])) _
    refine XS.astoreN X6.here hx rfl (hb hby at_38) rfl rfl (l' := #[.val (.int p1), .val (.int p2), .val (.ref o1), .val (.ref o6), .unset, .unset, .unset, .unset, .unset, .unset]) rfl ?_
    show Steps p.tables e below (T6.setTop (mkF m 39 #[.val (.int p1), .val (.int p2), .val (.ref o1), .val (.ref o6), .unset, .unset, .unset, .unset, .unset, .unset] [])) _
    refine XS.aloadN X6.here hx rfl (hb hby at_39) rfl rfl ?_
    show Steps p.tables e below (T6.setTop (mkF m 40 #[.val (.int p1), .val (.int p2), .val (.ref o1), .val (.ref o6), .unset, .unset, .unset, .unset, .unset, .unset] [(.ref o6)])) _
    refine XS.iconst X6.here hx rfl (hb hby at_40) ?_
    show Steps p.tables e below (T6.setTop (mkF m 41 #[.val (.int p1), .val (.int p2), .val (.ref o1), .val (.ref o6), .unset, .unset, .unset, .unset, .unset, .unset] [(.int (0 : Int32)), (.ref o6)])) _
    refine XS.aloadN X6.here hx rfl (hb hby at_41) rfl rfl ?_
    show Steps p.tables e below (T6.setTop (mkF m 42 #[.val (.int p1), .val (.int p2), .val (.ref o1), .val (.ref o6), .unset, .unset, .unset, .unset, .unset, .unset] [(.ref o1), (.int (0 : Int32)), (.ref o6)])) _
    refine XS.iconst X6.here hx rfl (hb hby at_42) ?_
    show Steps p.tables e below (T6.setTop (mkF m 43 #[.val (.int p1), .val (.int p2), .val (.ref o1), .val (.ref o6), .unset, .unset, .unset, .unset, .unset, .unset] [(.int (0 : Int32)), (.ref o1), (.int (0 : Int32)), (.ref o6)])) _
    refine st7 _ ?_
    show Steps p.tables e below (T7.setTop (mkF m 46 #[.val (.int p1), .val (.int p2), .val (.ref o1), .val (.ref o6), .unset, .unset, .unset, .unset, .unset, .unset] [(.int (f0_0 p1 p2)), (.int (0 : Int32)), (.ref o6)])) _
    refine st10 _ ?_
    show Steps p.tables e below (T7.setTop (mkF m 56 #[.val (.int p1), .val (.int p2), .val (.ref o1), .val (.ref o6), .unset, .unset, .unset, .unset, .unset, .unset] [(.int (f0_1 p1 p2)), (.int (0 : Int32)), (.ref o6)])) _
    refine st11 _ ?_
    show Steps p.tables e below (T11.setTop (mkF m 57 #[.val (.int p1), .val (.int p2), .val (.ref o1), .val (.ref o6), .unset, .unset, .unset, .unset, .unset, .unset] [])) _
    refine XS.aloadN X11.here hx rfl (hb hby at_57) rfl rfl ?_
    show Steps p.tables e below (T11.setTop (mkF m 58 #[.val (.int p1), .val (.int p2), .val (.ref o1), .val (.ref o6), .unset, .unset, .unset, .unset, .unset, .unset] [(.ref o6)])) _
    refine XS.iconst X11.here hx rfl (hb hby at_58) ?_
    show Steps p.tables e below (T11.setTop (mkF m 59 #[.val (.int p1), .val (.int p2), .val (.ref o1), .val (.ref o6), .unset, .unset, .unset, .unset, .unset, .unset] [(.int (1 : Int32)), (.ref o6)])) _
    refine XS.aloadN X11.here hx rfl (hb hby at_59) rfl rfl ?_
    show Steps p.tables e below (T11.setTop (mkF m 60 #[.val (.int p1), .val (.int p2), .val (.ref o1), .val (.ref o6), .unset, .unset, .unset, .unset, .unset, .unset] [(.ref o1), (.int (1 : Int32)), (.ref o6)])) _
    refine XS.iconst X11.here hx rfl (hb hby at_60) ?_
    show Steps p.tables e below (T11.setTop (mkF m 61 #[.val (.int p1), .val (.int p2), .val (.ref o1), .val (.ref o6), .unset, .unset, .unset, .unset, .unset, .unset] [(.int (1 : Int32)), (.ref o1), (.int (1 : Int32)), (.ref o6)])) _
    refine st12 _ ?_
    show Steps p.tables e below (T12.setTop (mkF m 64 #[.val (.int p1), .val (.int p2), .val (.ref o1), .val (.ref o6), .unset, .unset, .unset, .unset, .unset, .unset] [(.int (f0_2 p1 p2)), (.int (1 : Int32)), (.ref o6)])) _
    refine st15 _ ?_
    show Steps p.tables e below (T12.setTop (mkF m 74 #[.val (.int p1), .val (.int p2), .val (.ref o1), .val (.ref o6), .unset, .unset, .unset, .unset, .unset, .unset] [(.int (f0_3 p1 p2)), (.int (1 : Int32)), (.ref o6)])) _
    refine st16 _ ?_
    show Steps p.tables e below (T16.setTop (mkF m 75 #[.val (.int p1), .val (.int p2), .val (.ref o1), .val (.ref o6), .unset, .unset, .unset, .unset, .unset, .unset] [])) _
    refine XS.aloadN X16.here hx rfl (hb hby at_75) rfl rfl ?_
    show Steps p.tables e below (T16.setTop (mkF m 76 #[.val (.int p1), .val (.int p2), .val (.ref o1), .val (.ref o6), .unset, .unset, .unset, .unset, .unset, .unset] [(.ref o6)])) _
    refine XS.iconst X16.here hx rfl (hb hby at_76) ?_
    show Steps p.tables e below (T16.setTop (mkF m 77 #[.val (.int p1), .val (.int p2), .val (.ref o1), .val (.ref o6), .unset, .unset, .unset, .unset, .unset, .unset] [(.int (2 : Int32)), (.ref o6)])) _
    refine XS.aloadN X16.here hx rfl (hb hby at_77) rfl rfl ?_
    show Steps p.tables e below (T16.setTop (mkF m 78 #[.val (.int p1), .val (.int p2), .val (.ref o1), .val (.ref o6), .unset, .unset, .unset, .unset, .unset, .unset] [(.ref o1), (.int (2 : Int32)), (.ref o6)])) _
    refine XS.iconst X16.here hx rfl (hb hby at_78) ?_
    show Steps p.tables e below (T16.setTop (mkF m 79 #[.val (.int p1), .val (.int p2), .val (.ref o1), .val (.ref o6), .unset, .unset, .unset, .unset, .unset, .unset] [(.int (2 : Int32)), (.ref o1), (.int (2 : Int32)), (.ref o6)])) _
    refine st17 _ ?_
    show Steps p.tables e below (T17.setTop (mkF m 82 #[.val (.int p1), .val (.int p2), .val (.ref o1), .val (.ref o6), .unset, .unset, .unset, .unset, .unset, .unset] [(.int (f0_4 p1 p2)), (.int (2 : Int32)), (.ref o6)])) _
    refine st20 _ ?_
    show Steps p.tables e below (T17.setTop (mkF m 92 #[.val (.int p1), .val (.int p2), .val (.ref o1), .val (.ref o6), .unset, .unset, .unset, .unset, .unset, .unset] [(.int (f0_5 p1 p2)), (.int (2 : Int32)), (.ref o6)])) _
    refine st21 _ ?_
    show Steps p.tables e below (T21.setTop (mkF m 93 #[.val (.int p1), .val (.int p2), .val (.ref o1), .val (.ref o6), .unset, .unset, .unset, .unset, .unset, .unset] [])) _
    refine XS.aloadN X21.here hx rfl (hb hby at_93) rfl rfl ?_
    show Steps p.tables e below (T21.setTop (mkF m 94 #[.val (.int p1), .val (.int p2), .val (.ref o1), .val (.ref o6), .unset, .unset, .unset, .unset, .unset, .unset] [(.ref o6)])) _
    refine XS.iconst X21.here hx rfl (hb hby at_94) ?_
    show Steps p.tables e below (T21.setTop (mkF m 95 #[.val (.int p1), .val (.int p2), .val (.ref o1), .val (.ref o6), .unset, .unset, .unset, .unset, .unset, .unset] [(.int (3 : Int32)), (.ref o6)])) _
    refine XS.aloadN X21.here hx rfl (hb hby at_95) rfl rfl ?_
    show Steps p.tables e below (T21.setTop (mkF m 96 #[.val (.int p1), .val (.int p2), .val (.ref o1), .val (.ref o6), .unset, .unset, .unset, .unset, .unset, .unset] [(.ref o1), (.int (3 : Int32)), (.ref o6)])) _
    refine XS.iconst X21.here hx rfl (hb hby at_96) ?_
    show Steps p.tables e below (T21.setTop (mkF m 97 #[.val (.int p1), .val (.int p2), .val (.ref o1), .val (.ref o6), .unset, .unset, .unset, .unset, .unset, .unset] [(.int (3 : Int32)), (.ref o1), (.int (3 : Int32)), (.ref o6)])) _
    refine st22 _ ?_
    show Steps p.tables e below (T22.setTop (mkF m 100 #[.val (.int p1), .val (.int p2), .val (.ref o1), .val (.ref o6), .unset, .unset, .unset, .unset, .unset, .unset] [(.int (f0_6 p1 p2)), (.int (3 : Int32)), (.ref o6)])) _
    refine st25 _ ?_
    show Steps p.tables e below (T22.setTop (mkF m 110 #[.val (.int p1), .val (.int p2), .val (.ref o1), .val (.ref o6), .unset, .unset, .unset, .unset, .unset, .unset] [(.int (f0_7 p1 p2)), (.int (3 : Int32)), (.ref o6)])) _
    refine st26 _ ?_
    show Steps p.tables e below (T26.setTop (mkF m 111 #[.val (.int p1), .val (.int p2), .val (.ref o1), .val (.ref o6), .unset, .unset, .unset, .unset, .unset, .unset] [])) _
    refine XS.iconst X26.here hx rfl (hb hby at_111) ?_
    show Steps p.tables e below (T26.setTop (mkF m 112 #[.val (.int p1), .val (.int p2), .val (.ref o1), .val (.ref o6), .unset, .unset, .unset, .unset, .unset, .unset] [(.int (4 : Int32))])) _
    refine st27 _ ?_
    show Steps p.tables e below (T27.setTop (mkF m 114 #[.val (.int p1), .val (.int p2), .val (.ref o1), .val (.ref o6), .unset, .unset, .unset, .unset, .unset, .unset] [(.ref o27)])) _
    refine XS.astore X27.here hx rfl (hb hby at_114) rfl rfl (l' := #[.val (.int p1), .val (.int p2), .val (.ref o1), .val (.ref o6), .val (.ref o27), .unset, .unset, .unset, .unset, .unset]) rfl ?_
    show Steps p.tables e below (T27.setTop (mkF m 116 #[.val (.int p1), .val (.int p2), .val (.ref o1), .val (.ref o6), .val (.ref o27), .unset, .unset, .unset, .unset, .unset] [])) _
    refine XS.aload X27.here hx rfl (hb hby at_116) rfl rfl ?_
    show Steps p.tables e below (T27.setTop (mkF m 118 #[.val (.int p1), .val (.int p2), .val (.ref o1), .val (.ref o6), .val (.ref o27), .unset, .unset, .unset, .unset, .unset] [(.ref o27)])) _
    refine XS.iconst X27.here hx rfl (hb hby at_118) ?_
    show Steps p.tables e below (T27.setTop (mkF m 119 #[.val (.int p1), .val (.int p2), .val (.ref o1), .val (.ref o6), .val (.ref o27), .unset, .unset, .unset, .unset, .unset] [(.int (0 : Int32)), (.ref o27)])) _
    refine XS.aloadN X27.here hx rfl (hb hby at_119) rfl rfl ?_
    show Steps p.tables e below (T27.setTop (mkF m 120 #[.val (.int p1), .val (.int p2), .val (.ref o1), .val (.ref o6), .val (.ref o27), .unset, .unset, .unset, .unset, .unset] [(.ref o6), (.int (0 : Int32)), (.ref o27)])) _
    refine XS.iconst X27.here hx rfl (hb hby at_120) ?_
    show Steps p.tables e below (T27.setTop (mkF m 121 #[.val (.int p1), .val (.int p2), .val (.ref o1), .val (.ref o6), .val (.ref o27), .unset, .unset, .unset, .unset, .unset] [(.int (0 : Int32)), (.ref o6), (.int (0 : Int32)), (.ref o27)])) _
    refine X27.iaload hx (j := (0 : Int32)) (v := (.int (f0_1 p1 p2))) (by rw [e27]; exact Ar28.1) (State.isArrayOf_alike hZ.alike Ar28.2.1) Ar28.2.2 hin28 hat28 (g := (mkF m 121 #[.val (.int p1), .val (.int p2), .val (.ref o1), .val (.ref o6), .val (.ref o27), .unset, .unset, .unset, .unset, .unset] [(.int (0 : Int32)), (.ref o6), (.int (0 : Int32)), (.ref o27)])) rfl rfl (hb hby at_121) _ ?_
    show Steps p.tables e below (T27.setTop (mkF m 122 #[.val (.int p1), .val (.int p2), .val (.ref o1), .val (.ref o6), .val (.ref o27), .unset, .unset, .unset, .unset, .unset] [(.int (f0_1 p1 p2)), (.int (0 : Int32)), (.ref o27)])) _
    refine st29 _ ?_
    show Steps p.tables e below (T29.setTop (mkF m 123 #[.val (.int p1), .val (.int p2), .val (.ref o1), .val (.ref o6), .val (.ref o27), .unset, .unset, .unset, .unset, .unset] [])) _
    refine XS.aload X29.here hx rfl (hb hby at_123) rfl rfl ?_
    show Steps p.tables e below (T29.setTop (mkF m 125 #[.val (.int p1), .val (.int p2), .val (.ref o1), .val (.ref o6), .val (.ref o27), .unset, .unset, .unset, .unset, .unset] [(.ref o27)])) _
    refine XS.iconst X29.here hx rfl (hb hby at_125) ?_
    show Steps p.tables e below (T29.setTop (mkF m 126 #[.val (.int p1), .val (.int p2), .val (.ref o1), .val (.ref o6), .val (.ref o27), .unset, .unset, .unset, .unset, .unset] [(.int (1 : Int32)), (.ref o27)])) _
    refine XS.aloadN X29.here hx rfl (hb hby at_126) rfl rfl ?_
    show Steps p.tables e below (T29.setTop (mkF m 127 #[.val (.int p1), .val (.int p2), .val (.ref o1), .val (.ref o6), .val (.ref o27), .unset, .unset, .unset, .unset, .unset] [(.ref o6), (.int (1 : Int32)), (.ref o27)])) _
    refine XS.iconst X29.here hx rfl (hb hby at_127) ?_
    show Steps p.tables e below (T29.setTop (mkF m 128 #[.val (.int p1), .val (.int p2), .val (.ref o1), .val (.ref o6), .val (.ref o27), .unset, .unset, .unset, .unset, .unset] [(.int (1 : Int32)), (.ref o6), (.int (1 : Int32)), (.ref o27)])) _
    refine X29.iaload hx (j := (1 : Int32)) (v := (.int (f0_3 p1 p2))) (by rw [e29]; exact Ar30.1) (State.isArrayOf_alike hZ.alike Ar30.2.1) Ar30.2.2 hin30 hat30 (g := (mkF m 128 #[.val (.int p1), .val (.int p2), .val (.ref o1), .val (.ref o6), .val (.ref o27), .unset, .unset, .unset, .unset, .unset] [(.int (1 : Int32)), (.ref o6), (.int (1 : Int32)), (.ref o27)])) rfl rfl (hb hby at_128) _ ?_
    show Steps p.tables e below (T29.setTop (mkF m 129 #[.val (.int p1), .val (.int p2), .val (.ref o1), .val (.ref o6), .val (.ref o27), .unset, .unset, .unset, .unset, .unset] [(.int (f0_3 p1 p2)), (.int (1 : Int32)), (.ref o27)])) _
    refine st31 _ ?_
    show Steps p.tables e below (T31.setTop (mkF m 130 #[.val (.int p1), .val (.int p2), .val (.ref o1), .val (.ref o6), .val (.ref o27), .unset, .unset, .unset, .unset, .unset] [])) _
    refine XS.aload X31.here hx rfl (hb hby at_130) rfl rfl ?_
    show Steps p.tables e below (T31.setTop (mkF m 132 #[.val (.int p1), .val (.int p2), .val (.ref o1), .val (.ref o6), .val (.ref o27), .unset, .unset, .unset, .unset, .unset] [(.ref o27)])) _
    refine XS.iconst X31.here hx rfl (hb hby at_132) ?_
    show Steps p.tables e below (T31.setTop (mkF m 133 #[.val (.int p1), .val (.int p2), .val (.ref o1), .val (.ref o6), .val (.ref o27), .unset, .unset, .unset, .unset, .unset] [(.int (2 : Int32)), (.ref o27)])) _
    refine XS.aloadN X31.here hx rfl (hb hby at_133) rfl rfl ?_
    show Steps p.tables e below (T31.setTop (mkF m 134 #[.val (.int p1), .val (.int p2), .val (.ref o1), .val (.ref o6), .val (.ref o27), .unset, .unset, .unset, .unset, .unset] [(.ref o6), (.int (2 : Int32)), (.ref o27)])) _
    refine XS.iconst X31.here hx rfl (hb hby at_134) ?_
    show Steps p.tables e below (T31.setTop (mkF m 135 #[.val (.int p1), .val (.int p2), .val (.ref o1), .val (.ref o6), .val (.ref o27), .unset, .unset, .unset, .unset, .unset] [(.int (2 : Int32)), (.ref o6), (.int (2 : Int32)), (.ref o27)])) _
    refine X31.iaload hx (j := (2 : Int32)) (v := (.int (f0_5 p1 p2))) (by rw [e31]; exact Ar32.1) (State.isArrayOf_alike hZ.alike Ar32.2.1) Ar32.2.2 hin32 hat32 (g := (mkF m 135 #[.val (.int p1), .val (.int p2), .val (.ref o1), .val (.ref o6), .val (.ref o27), .unset, .unset, .unset, .unset, .unset] [(.int (2 : Int32)), (.ref o6), (.int (2 : Int32)), (.ref o27)])) rfl rfl (hb hby at_135) _ ?_
    show Steps p.tables e below (T31.setTop (mkF m 136 #[.val (.int p1), .val (.int p2), .val (.ref o1), .val (.ref o6), .val (.ref o27), .unset, .unset, .unset, .unset, .unset] [(.int (f0_5 p1 p2)), (.int (2 : Int32)), (.ref o27)])) _
    refine st33 _ ?_
    show Steps p.tables e below (T33.setTop (mkF m 137 #[.val (.int p1), .val (.int p2), .val (.ref o1), .val (.ref o6), .val (.ref o27), .unset, .unset, .unset, .unset, .unset] [])) _
    refine XS.aload X33.here hx rfl (hb hby at_137) rfl rfl ?_
    show Steps p.tables e below (T33.setTop (mkF m 139 #[.val (.int p1), .val (.int p2), .val (.ref o1), .val (.ref o6), .val (.ref o27), .unset, .unset, .unset, .unset, .unset] [(.ref o27)])) _
    refine XS.iconst X33.here hx rfl (hb hby at_139) ?_
    show Steps p.tables e below (T33.setTop (mkF m 140 #[.val (.int p1), .val (.int p2), .val (.ref o1), .val (.ref o6), .val (.ref o27), .unset, .unset, .unset, .unset, .unset] [(.int (3 : Int32)), (.ref o27)])) _
    refine XS.aloadN X33.here hx rfl (hb hby at_140) rfl rfl ?_
    show Steps p.tables e below (T33.setTop (mkF m 141 #[.val (.int p1), .val (.int p2), .val (.ref o1), .val (.ref o6), .val (.ref o27), .unset, .unset, .unset, .unset, .unset] [(.ref o6), (.int (3 : Int32)), (.ref o27)])) _
    refine XS.iconst X33.here hx rfl (hb hby at_141) ?_
    show Steps p.tables e below (T33.setTop (mkF m 142 #[.val (.int p1), .val (.int p2), .val (.ref o1), .val (.ref o6), .val (.ref o27), .unset, .unset, .unset, .unset, .unset] [(.int (3 : Int32)), (.ref o6), (.int (3 : Int32)), (.ref o27)])) _
    refine X33.iaload hx (j := (3 : Int32)) (v := (.int (f0_7 p1 p2))) (by rw [e33]; exact Ar34.1) (State.isArrayOf_alike hZ.alike Ar34.2.1) Ar34.2.2 hin34 hat34 (g := (mkF m 142 #[.val (.int p1), .val (.int p2), .val (.ref o1), .val (.ref o6), .val (.ref o27), .unset, .unset, .unset, .unset, .unset] [(.int (3 : Int32)), (.ref o6), (.int (3 : Int32)), (.ref o27)])) rfl rfl (hb hby at_142) _ ?_
    show Steps p.tables e below (T33.setTop (mkF m 143 #[.val (.int p1), .val (.int p2), .val (.ref o1), .val (.ref o6), .val (.ref o27), .unset, .unset, .unset, .unset, .unset] [(.int (f0_7 p1 p2)), (.int (3 : Int32)), (.ref o27)])) _
    refine st35 _ ?_
    show Steps p.tables e below (T35.setTop (mkF m 144 #[.val (.int p1), .val (.int p2), .val (.ref o1), .val (.ref o6), .val (.ref o27), .unset, .unset, .unset, .unset, .unset] [])) _
    refine XS.iloadN X35.here hx rfl (hb hby at_144) rfl ?_
    show Steps p.tables e below (T35.setTop (mkF m 145 #[.val (.int p1), .val (.int p2), .val (.ref o1), .val (.ref o6), .val (.ref o27), .unset, .unset, .unset, .unset, .unset] [(.int p2)])) _
    refine XS.iconst X35.here hx rfl (hb hby at_145) ?_
    show Steps p.tables e below (T35.setTop (mkF m 146 #[.val (.int p1), .val (.int p2), .val (.ref o1), .val (.ref o6), .val (.ref o27), .unset, .unset, .unset, .unset, .unset] [(.int (3 : Int32)), (.int p2)])) _
    refine XS.iand X35.here hx rfl (hb hby at_146) rfl ?_
    show Steps p.tables e below (T35.setTop (mkF m 147 #[.val (.int p1), .val (.int p2), .val (.ref o1), .val (.ref o6), .val (.ref o27), .unset, .unset, .unset, .unset, .unset] [(.int (p2 &&& (3 : Int32)))])) _
    refine XS.istore X35.here hx rfl (hb hby at_147) rfl (l' := #[.val (.int p1), .val (.int p2), .val (.ref o1), .val (.ref o6), .val (.ref o27), .val (.int (p2 &&& (3 : Int32))), .unset, .unset, .unset, .unset]) rfl ?_
    show Steps p.tables e below (T35.setTop (mkF m 149 #[.val (.int p1), .val (.int p2), .val (.ref o1), .val (.ref o6), .val (.ref o27), .val (.int (p2 &&& (3 : Int32))), .unset, .unset, .unset, .unset] [])) _
    refine XS.aloadN X35.here hx rfl (hb hby at_149) rfl rfl ?_
    show Steps p.tables e below (T35.setTop (mkF m 150 #[.val (.int p1), .val (.int p2), .val (.ref o1), .val (.ref o6), .val (.ref o27), .val (.int (p2 &&& (3 : Int32))), .unset, .unset, .unset, .unset] [(.ref o6)])) _
    refine XS.iload X35.here hx rfl (hb hby at_150) rfl ?_
    show Steps p.tables e below (T35.setTop (mkF m 152 #[.val (.int p1), .val (.int p2), .val (.ref o1), .val (.ref o6), .val (.ref o27), .val (.int (p2 &&& (3 : Int32))), .unset, .unset, .unset, .unset] [(.int (p2 &&& (3 : Int32))), (.ref o6)])) _
    refine X35.iaload hx (j := (p2 &&& (3 : Int32))) (v := (.int (f0_8 p1 p2))) (by rw [e35]; exact Ar36.1) (State.isArrayOf_alike hZ.alike Ar36.2.1) Ar36.2.2 hin36 hat36 (g := (mkF m 152 #[.val (.int p1), .val (.int p2), .val (.ref o1), .val (.ref o6), .val (.ref o27), .val (.int (p2 &&& (3 : Int32))), .unset, .unset, .unset, .unset] [(.int (p2 &&& (3 : Int32))), (.ref o6)])) rfl rfl (hb hby at_152) _ ?_
    show Steps p.tables e below (T35.setTop (mkF m 153 #[.val (.int p1), .val (.int p2), .val (.ref o1), .val (.ref o6), .val (.ref o27), .val (.int (p2 &&& (3 : Int32))), .unset, .unset, .unset, .unset] [(.int (f0_8 p1 p2))])) _
    refine XS.istore X35.here hx rfl (hb hby at_153) rfl (l' := #[.val (.int p1), .val (.int p2), .val (.ref o1), .val (.ref o6), .val (.ref o27), .val (.int (p2 &&& (3 : Int32))), .val (.int (f0_8 p1 p2)), .unset, .unset, .unset]) rfl ?_
    show Steps p.tables e below (T35.setTop (mkF m 155 #[.val (.int p1), .val (.int p2), .val (.ref o1), .val (.ref o6), .val (.ref o27), .val (.int (p2 &&& (3 : Int32))), .val (.int (f0_8 p1 p2)), .unset, .unset, .unset] [])) _
    refine XS.aloadN X35.here hx rfl (hb hby at_155) rfl rfl ?_
    show Steps p.tables e below (T35.setTop (mkF m 156 #[.val (.int p1), .val (.int p2), .val (.ref o1), .val (.ref o6), .val (.ref o27), .val (.int (p2 &&& (3 : Int32))), .val (.int (f0_8 p1 p2)), .unset, .unset, .unset] [(.ref o6)])) _
    refine XS.iload X35.here hx rfl (hb hby at_156) rfl ?_
    show Steps p.tables e below (T35.setTop (mkF m 158 #[.val (.int p1), .val (.int p2), .val (.ref o1), .val (.ref o6), .val (.ref o27), .val (.int (p2 &&& (3 : Int32))), .val (.int (f0_8 p1 p2)), .unset, .unset, .unset] [(.int (f0_8 p1 p2)), (.ref o6)])) _
    refine X35.iaload hx (j := (f0_8 p1 p2)) (v := (.int (f0_9 p1 p2))) (by rw [e35]; exact Ar38.1) (State.isArrayOf_alike hZ.alike Ar38.2.1) Ar38.2.2 hin38 hat38 (g := (mkF m 158 #[.val (.int p1), .val (.int p2), .val (.ref o1), .val (.ref o6), .val (.ref o27), .val (.int (p2 &&& (3 : Int32))), .val (.int (f0_8 p1 p2)), .unset, .unset, .unset] [(.int (f0_8 p1 p2)), (.ref o6)])) rfl rfl (hb hby at_158) _ ?_
    show Steps p.tables e below (T35.setTop (mkF m 159 #[.val (.int p1), .val (.int p2), .val (.ref o1), .val (.ref o6), .val (.ref o27), .val (.int (p2 &&& (3 : Int32))), .val (.int (f0_8 p1 p2)), .unset, .unset, .unset] [(.int (f0_9 p1 p2))])) _
    refine XS.istore X35.here hx rfl (hb hby at_159) rfl (l' := #[.val (.int p1), .val (.int p2), .val (.ref o1), .val (.ref o6), .val (.ref o27), .val (.int (p2 &&& (3 : Int32))), .val (.int (f0_8 p1 p2)), .val (.int (f0_9 p1 p2)), .unset, .unset]) rfl ?_
    show Steps p.tables e below (T35.setTop (mkF m 161 #[.val (.int p1), .val (.int p2), .val (.ref o1), .val (.ref o6), .val (.ref o27), .val (.int (p2 &&& (3 : Int32))), .val (.int (f0_8 p1 p2)), .val (.int (f0_9 p1 p2)), .unset, .unset] [])) _
    refine XS.aloadN X35.here hx rfl (hb hby at_161) rfl rfl ?_
    show Steps p.tables e below (T35.setTop (mkF m 162 #[.val (.int p1), .val (.int p2), .val (.ref o1), .val (.ref o6), .val (.ref o27), .val (.int (p2 &&& (3 : Int32))), .val (.int (f0_8 p1 p2)), .val (.int (f0_9 p1 p2)), .unset, .unset] [(.ref o6)])) _
    refine XS.iload X35.here hx rfl (hb hby at_162) rfl ?_
    show Steps p.tables e below (T35.setTop (mkF m 164 #[.val (.int p1), .val (.int p2), .val (.ref o1), .val (.ref o6), .val (.ref o27), .val (.int (p2 &&& (3 : Int32))), .val (.int (f0_8 p1 p2)), .val (.int (f0_9 p1 p2)), .unset, .unset] [(.int (f0_9 p1 p2)), (.ref o6)])) _
    refine X35.iaload hx (j := (f0_9 p1 p2)) (v := (.int (f0_10 p1 p2))) (by rw [e35]; exact Ar40.1) (State.isArrayOf_alike hZ.alike Ar40.2.1) Ar40.2.2 hin40 hat40 (g := (mkF m 164 #[.val (.int p1), .val (.int p2), .val (.ref o1), .val (.ref o6), .val (.ref o27), .val (.int (p2 &&& (3 : Int32))), .val (.int (f0_8 p1 p2)), .val (.int (f0_9 p1 p2)), .unset, .unset] [(.int (f0_9 p1 p2)), (.ref o6)])) rfl rfl (hb hby at_164) _ ?_
    show Steps p.tables e below (T35.setTop (mkF m 165 #[.val (.int p1), .val (.int p2), .val (.ref o1), .val (.ref o6), .val (.ref o27), .val (.int (p2 &&& (3 : Int32))), .val (.int (f0_8 p1 p2)), .val (.int (f0_9 p1 p2)), .unset, .unset] [(.int (f0_10 p1 p2))])) _
    refine XS.istore X35.here hx rfl (hb hby at_165) rfl (l' := #[.val (.int p1), .val (.int p2), .val (.ref o1), .val (.ref o6), .val (.ref o27), .val (.int (p2 &&& (3 : Int32))), .val (.int (f0_8 p1 p2)), .val (.int (f0_9 p1 p2)), .val (.int (f0_10 p1 p2)), .unset]) rfl ?_
    show Steps p.tables e below (T35.setTop (mkF m 167 #[.val (.int p1), .val (.int p2), .val (.ref o1), .val (.ref o6), .val (.ref o27), .val (.int (p2 &&& (3 : Int32))), .val (.int (f0_8 p1 p2)), .val (.int (f0_9 p1 p2)), .val (.int (f0_10 p1 p2)), .unset] [])) _
    refine XS.iload X35.here hx rfl (hb hby at_167) rfl ?_
    show Steps p.tables e below (T35.setTop (mkF m 169 #[.val (.int p1), .val (.int p2), .val (.ref o1), .val (.ref o6), .val (.ref o27), .val (.int (p2 &&& (3 : Int32))), .val (.int (f0_8 p1 p2)), .val (.int (f0_9 p1 p2)), .val (.int (f0_10 p1 p2)), .unset] [(.int (p2 &&& (3 : Int32)))])) _
    refine XS.aload X35.here hx rfl (hb hby at_169) rfl rfl ?_
    show Steps p.tables e below (T35.setTop (mkF m 171 #[.val (.int p1), .val (.int p2), .val (.ref o1), .val (.ref o6), .val (.ref o27), .val (.int (p2 &&& (3 : Int32))), .val (.int (f0_8 p1 p2)), .val (.int (f0_9 p1 p2)), .val (.int (f0_10 p1 p2)), .unset] [(.ref o27), (.int (p2 &&& (3 : Int32)))])) _
    refine st42 _ ?_
    show Steps p.tables e below (T42.setTop (mkF m 174 #[.val (.int p1), .val (.int p2), .val (.ref o1), .val (.ref o6), .val (.ref o27), .val (.int (p2 &&& (3 : Int32))), .val (.int (f0_8 p1 p2)), .val (.int (f0_9 p1 p2)), .val (.int (f0_10 p1 p2)), .unset] [(.int (f0_15 p1 p2))])) _
    refine XS.istore X42.here hx rfl (hb hby at_174) rfl (l' := #[.val (.int p1), .val (.int p2), .val (.ref o1), .val (.ref o6), .val (.ref o27), .val (.int (p2 &&& (3 : Int32))), .val (.int (f0_8 p1 p2)), .val (.int (f0_9 p1 p2)), .val (.int (f0_10 p1 p2)), .val (.int (f0_15 p1 p2))]) rfl ?_
    show Steps p.tables e below (T42.setTop (mkF m 176 #[.val (.int p1), .val (.int p2), .val (.ref o1), .val (.ref o6), .val (.ref o27), .val (.int (p2 &&& (3 : Int32))), .val (.int (f0_8 p1 p2)), .val (.int (f0_9 p1 p2)), .val (.int (f0_10 p1 p2)), .val (.int (f0_15 p1 p2))] [])) _
    refine XS.iload X42.here hx rfl (hb hby at_176) rfl ?_
    show Steps p.tables e below (T42.setTop (mkF m 178 #[.val (.int p1), .val (.int p2), .val (.ref o1), .val (.ref o6), .val (.ref o27), .val (.int (p2 &&& (3 : Int32))), .val (.int (f0_8 p1 p2)), .val (.int (f0_9 p1 p2)), .val (.int (f0_10 p1 p2)), .val (.int (f0_15 p1 p2))] [(.int (f0_15 p1 p2))])) _
    refine XS.iload X42.here hx rfl (hb hby at_178) rfl ?_
    exact k
  by_cases h43 : (f0_15 p1 p2) = (f0_10 p1 p2)
  · obtain ⟨cl44, Ar44, -, S44, M44, H44, -⟩ := id c42_0'
    have hin44 := inb_of (j := (0 : Int32)) S44 (by decide)
    have hat44 := H44.at hin44 (v := (.int (f0_11 p1 p2))) (rfl)
    obtain ⟨_, _, ⟨T45, L45, k45, n45⟩, -, X45, ⟨Lc45, hQ45, l45, y45, z45⟩, st45⟩ := Jvm.LawKit.callS X42 hx (y := (⟨"com/example/bonn/bonn/ValueGroupsRootPinLaw", "expected", "([IIIIII)I"⟩ : MethodName)) hown (mvT hZ (hw _ (List.mem_of_getElem? (i := 12) rfl))) (mvT hZ (hw _ (List.mem_of_getElem? (i := 13) rfl))) (mvT hZ (hw _ (List.mem_of_getElem? (i := 3) rfl))) (mvT hZ (hw _ (List.mem_of_getElem? (i := 14) rfl))) (by decide) (backOf (W := 1) (rmex0 l Z a0 hw [] o6 (p2 &&& (3 : Int32)) (f0_8 p1 p2) (f0_9 p1 p2) (f0_10 p1 p2) kc6 (f0_1 p1 p2) (f0_3 p1 p2) (f0_5 p1 p2) (f0_7 p1 p2) T42.heap n0 Z42 u42_1) hZ (hw _ (List.mem_of_getElem? (i := 14) rfl)) (hw _ (List.mem_of_getElem? (i := 3) rfl)) (by decide) (by decide)) (g := (mkF m 199 #[.val (.int p1), .val (.int p2), .val (.ref o1), .val (.ref o6), .val (.ref o27), .val (.int (p2 &&& (3 : Int32))), .val (.int (f0_8 p1 p2)), .val (.int (f0_9 p1 p2)), .val (.int (f0_10 p1 p2)), .val (.int (f0_15 p1 p2))] [(.int (f0_10 p1 p2)), (.int (f0_9 p1 p2)), (.int (f0_8 p1 p2)), (.int (p2 &&& (3 : Int32))), (.int (0 : Int32)), (.ref o6), (.int (f0_11 p1 p2))])) rfl (by rw [hml]; rfl) (argsL := [(.ref o6), (.int (0 : Int32)), (.int (p2 &&& (3 : Int32))), (.int (f0_8 p1 p2)), (.int (f0_9 p1 p2)), (.int (f0_10 p1 p2))]) (rest := [(.int (f0_11 p1 p2))]) (lenOf pd_3 rfl) rfl (by show 2 * 0 + _ ≤ _; exact Nat.le_of_eq rfl) (hb hby at_199) (fun _ _ => ⟨rfl, rfl, (by decide : 3 + 0 ≤ _), (by decide : 12 + 0 ≤ _)⟩)
    dsimp only [Pt.U, Pt.locs, Pt.cells, Pt.slots] at X45 l45 y45 z45 st45 hQ45
    subst l45 y45 z45
    obtain ⟨rfl, N45q, e45⟩ := hQ45
    have N45 := Fr.app N42 N45q
    obtain ⟨T59, lo59, X59, e59, N59, st59⟩ : ∃ (T' : State) (lo : List Loc) (_ : Stand p l e room_1 s m #[(.int p1), (.int p2)] below meth c T' lo 3 12), T'.heap = T42.heap ∧ Fr n0 lo ∧ ∀ t, Steps p.tables e below (T'.setTop (mkF m 270 #[.val (.int p1), .val (.int p2), .val (.ref o1), .val (.ref o6), .val (.ref o27), .val (.int (p2 &&& (3 : Int32))), .val (.int (f0_8 p1 p2)), .val (.int (f0_9 p1 p2)), .val (.int (f0_10 p1 p2)), .val (.int (f0_15 p1 p2))] [(.int (f0_23 p1 p2))])) t → Steps p.tables e below (T45.setTop (mkF m 202 #[.val (.int p1), .val (.int p2), .val (.ref o1), .val (.ref o6), .val (.ref o27), .val (.int (p2 &&& (3 : Int32))), .val (.int (f0_8 p1 p2)), .val (.int (f0_9 p1 p2)), .val (.int (f0_10 p1 p2)), .val (.int (f0_15 p1 p2))] [(.int (f0_16 p1 p2)), (.int (f0_11 p1 p2))])) t := by
      by_cases h46 : (f0_11 p1 p2) = (f0_16 p1 p2)
      · obtain ⟨cl47, Ar47, -, S47, M47, H47, -⟩ := id c42_0'
        have hin47 := inb_of (j := (1 : Int32)) S47 (by decide)
        have hat47 := H47.at hin47 (v := (.int (f0_12 p1 p2))) (rfl)
        obtain ⟨_, _, ⟨T48, L48, k48, n48⟩, -, X48, ⟨Lc48, hQ48, l48, y48, z48⟩, st48⟩ := Jvm.LawKit.callS X45 hx (y := (⟨"com/example/bonn/bonn/ValueGroupsRootPinLaw", "expected", "([IIIIII)I"⟩ : MethodName)) hown (mvT hZ (hw _ (List.mem_of_getElem? (i := 12) rfl))) (mvT hZ (hw _ (List.mem_of_getElem? (i := 13) rfl))) (mvT hZ (hw _ (List.mem_of_getElem? (i := 3) rfl))) (mvT hZ (hw _ (List.mem_of_getElem? (i := 14) rfl))) (by decide) (backOf (W := 1) (rmex1 l Z a0 hw [] o6 (p2 &&& (3 : Int32)) (f0_8 p1 p2) (f0_9 p1 p2) (f0_10 p1 p2) kc6 (f0_1 p1 p2) (f0_3 p1 p2) (f0_5 p1 p2) (f0_7 p1 p2) T42.heap n0 Z42 u42_1) hZ (hw _ (List.mem_of_getElem? (i := 14) rfl)) (hw _ (List.mem_of_getElem? (i := 3) rfl)) (by decide) (by decide)) (g := (mkF m 219 #[.val (.int p1), .val (.int p2), .val (.ref o1), .val (.ref o6), .val (.ref o27), .val (.int (p2 &&& (3 : Int32))), .val (.int (f0_8 p1 p2)), .val (.int (f0_9 p1 p2)), .val (.int (f0_10 p1 p2)), .val (.int (f0_15 p1 p2))] [(.int (f0_10 p1 p2)), (.int (f0_9 p1 p2)), (.int (f0_8 p1 p2)), (.int (p2 &&& (3 : Int32))), (.int (1 : Int32)), (.ref o6), (.int (f0_12 p1 p2))])) rfl (by rw [hml]; rfl) (argsL := [(.ref o6), (.int (1 : Int32)), (.int (p2 &&& (3 : Int32))), (.int (f0_8 p1 p2)), (.int (f0_9 p1 p2)), (.int (f0_10 p1 p2))]) (rest := [(.int (f0_12 p1 p2))]) (lenOf pd_3 rfl) rfl (by show 2 * 0 + _ ≤ _; exact Nat.le_of_eq rfl) (hb hby at_219) (fun _ _ => ⟨rfl, e45, (by decide : 3 + 0 ≤ _), (by decide : 12 + 0 ≤ _)⟩)
        dsimp only [Pt.U, Pt.locs, Pt.cells, Pt.slots] at X48 l48 y48 z48 st48 hQ48
        subst l48 y48 z48
        obtain ⟨rfl, N48q, e48⟩ := hQ48
        have N48 := Fr.app N45 N48q
        obtain ⟨T58, lo58, X58, e58, N58, st58⟩ : ∃ (T' : State) (lo : List Loc) (_ : Stand p l e room_1 s m #[(.int p1), (.int p2)] below meth c T' lo 3 12), T'.heap = T42.heap ∧ Fr n0 lo ∧ ∀ t, Steps p.tables e below (T'.setTop (mkF m 270 #[.val (.int p1), .val (.int p2), .val (.ref o1), .val (.ref o6), .val (.ref o27), .val (.int (p2 &&& (3 : Int32))), .val (.int (f0_8 p1 p2)), .val (.int (f0_9 p1 p2)), .val (.int (f0_10 p1 p2)), .val (.int (f0_15 p1 p2))] [(.int (f0_22 p1 p2))])) t → Steps p.tables e below (T48.setTop (mkF m 222 #[.val (.int p1), .val (.int p2), .val (.ref o1), .val (.ref o6), .val (.ref o27), .val (.int (p2 &&& (3 : Int32))), .val (.int (f0_8 p1 p2)), .val (.int (f0_9 p1 p2)), .val (.int (f0_10 p1 p2)), .val (.int (f0_15 p1 p2))] [(.int (f0_17 p1 p2)), (.int (f0_12 p1 p2))])) t := by
          by_cases h49 : (f0_12 p1 p2) = (f0_17 p1 p2)
          · obtain ⟨cl50, Ar50, -, S50, M50, H50, -⟩ := id c42_0'
            have hin50 := inb_of (j := (2 : Int32)) S50 (by decide)
            have hat50 := H50.at hin50 (v := (.int (f0_13 p1 p2))) (rfl)
            obtain ⟨_, _, ⟨T51, L51, k51, n51⟩, -, X51, ⟨Lc51, hQ51, l51, y51, z51⟩, st51⟩ := Jvm.LawKit.callS X48 hx (y := (⟨"com/example/bonn/bonn/ValueGroupsRootPinLaw", "expected", "([IIIIII)I"⟩ : MethodName)) hown (mvT hZ (hw _ (List.mem_of_getElem? (i := 12) rfl))) (mvT hZ (hw _ (List.mem_of_getElem? (i := 13) rfl))) (mvT hZ (hw _ (List.mem_of_getElem? (i := 3) rfl))) (mvT hZ (hw _ (List.mem_of_getElem? (i := 14) rfl))) (by decide) (backOf (W := 1) (rmex2 l Z a0 hw [] o6 (p2 &&& (3 : Int32)) (f0_8 p1 p2) (f0_9 p1 p2) (f0_10 p1 p2) kc6 (f0_1 p1 p2) (f0_3 p1 p2) (f0_5 p1 p2) (f0_7 p1 p2) T42.heap n0 Z42 u42_1) hZ (hw _ (List.mem_of_getElem? (i := 14) rfl)) (hw _ (List.mem_of_getElem? (i := 3) rfl)) (by decide) (by decide)) (g := (mkF m 239 #[.val (.int p1), .val (.int p2), .val (.ref o1), .val (.ref o6), .val (.ref o27), .val (.int (p2 &&& (3 : Int32))), .val (.int (f0_8 p1 p2)), .val (.int (f0_9 p1 p2)), .val (.int (f0_10 p1 p2)), .val (.int (f0_15 p1 p2))] [(.int (f0_10 p1 p2)), (.int (f0_9 p1 p2)), (.int (f0_8 p1 p2)), (.int (p2 &&& (3 : Int32))), (.int (2 : Int32)), (.ref o6), (.int (f0_13 p1 p2))])) rfl (by rw [hml]; rfl) (argsL := [(.ref o6), (.int (2 : Int32)), (.int (p2 &&& (3 : Int32))), (.int (f0_8 p1 p2)), (.int (f0_9 p1 p2)), (.int (f0_10 p1 p2))]) (rest := [(.int (f0_13 p1 p2))]) (lenOf pd_3 rfl) rfl (by show 2 * 0 + _ ≤ _; exact Nat.le_of_eq rfl) (hb hby at_239) (fun _ _ => ⟨rfl, e48, (by decide : 3 + 0 ≤ _), (by decide : 12 + 0 ≤ _)⟩)
            dsimp only [Pt.U, Pt.locs, Pt.cells, Pt.slots] at X51 l51 y51 z51 st51 hQ51
            subst l51 y51 z51
            obtain ⟨rfl, N51q, e51⟩ := hQ51
            have N51 := Fr.app N48 N51q
            obtain ⟨T57, lo57, X57, e57, N57, st57⟩ : ∃ (T' : State) (lo : List Loc) (_ : Stand p l e room_1 s m #[(.int p1), (.int p2)] below meth c T' lo 3 12), T'.heap = T42.heap ∧ Fr n0 lo ∧ ∀ t, Steps p.tables e below (T'.setTop (mkF m 270 #[.val (.int p1), .val (.int p2), .val (.ref o1), .val (.ref o6), .val (.ref o27), .val (.int (p2 &&& (3 : Int32))), .val (.int (f0_8 p1 p2)), .val (.int (f0_9 p1 p2)), .val (.int (f0_10 p1 p2)), .val (.int (f0_15 p1 p2))] [(.int (f0_21 p1 p2))])) t → Steps p.tables e below (T51.setTop (mkF m 242 #[.val (.int p1), .val (.int p2), .val (.ref o1), .val (.ref o6), .val (.ref o27), .val (.int (p2 &&& (3 : Int32))), .val (.int (f0_8 p1 p2)), .val (.int (f0_9 p1 p2)), .val (.int (f0_10 p1 p2)), .val (.int (f0_15 p1 p2))] [(.int (f0_18 p1 p2)), (.int (f0_13 p1 p2))])) t := by
              by_cases h52 : (f0_13 p1 p2) = (f0_18 p1 p2)
              · obtain ⟨cl53, Ar53, -, S53, M53, H53, -⟩ := id c42_0'
                have hin53 := inb_of (j := (3 : Int32)) S53 (by decide)
                have hat53 := H53.at hin53 (v := (.int (f0_14 p1 p2))) (rfl)
                obtain ⟨_, _, ⟨T54, L54, k54, n54⟩, -, X54, ⟨Lc54, hQ54, l54, y54, z54⟩, st54⟩ := Jvm.LawKit.callS X51 hx (y := (⟨"com/example/bonn/bonn/ValueGroupsRootPinLaw", "expected", "([IIIIII)I"⟩ : MethodName)) hown (mvT hZ (hw _ (List.mem_of_getElem? (i := 12) rfl))) (mvT hZ (hw _ (List.mem_of_getElem? (i := 13) rfl))) (mvT hZ (hw _ (List.mem_of_getElem? (i := 3) rfl))) (mvT hZ (hw _ (List.mem_of_getElem? (i := 14) rfl))) (by decide) (backOf (W := 1) (rmex3 l Z a0 hw [] o6 (p2 &&& (3 : Int32)) (f0_8 p1 p2) (f0_9 p1 p2) (f0_10 p1 p2) kc6 (f0_1 p1 p2) (f0_3 p1 p2) (f0_5 p1 p2) (f0_7 p1 p2) T42.heap n0 Z42 u42_1) hZ (hw _ (List.mem_of_getElem? (i := 14) rfl)) (hw _ (List.mem_of_getElem? (i := 3) rfl)) (by decide) (by decide)) (g := (mkF m 259 #[.val (.int p1), .val (.int p2), .val (.ref o1), .val (.ref o6), .val (.ref o27), .val (.int (p2 &&& (3 : Int32))), .val (.int (f0_8 p1 p2)), .val (.int (f0_9 p1 p2)), .val (.int (f0_10 p1 p2)), .val (.int (f0_15 p1 p2))] [(.int (f0_10 p1 p2)), (.int (f0_9 p1 p2)), (.int (f0_8 p1 p2)), (.int (p2 &&& (3 : Int32))), (.int (3 : Int32)), (.ref o6), (.int (f0_14 p1 p2))])) rfl (by rw [hml]; rfl) (argsL := [(.ref o6), (.int (3 : Int32)), (.int (p2 &&& (3 : Int32))), (.int (f0_8 p1 p2)), (.int (f0_9 p1 p2)), (.int (f0_10 p1 p2))]) (rest := [(.int (f0_14 p1 p2))]) (lenOf pd_3 rfl) rfl (by show 2 * 0 + _ ≤ _; exact Nat.le_of_eq rfl) (hb hby at_259) (fun _ _ => ⟨rfl, e51, (by decide : 3 + 0 ≤ _), (by decide : 12 + 0 ≤ _)⟩)
                dsimp only [Pt.U, Pt.locs, Pt.cells, Pt.slots] at X54 l54 y54 z54 st54 hQ54
                subst l54 y54 z54
                obtain ⟨rfl, N54q, e54⟩ := hQ54
                have N54 := Fr.app N51 N54q
                have st56 : ∀ t, Steps p.tables e below (T54.setTop (mkF m 270 #[.val (.int p1), .val (.int p2), .val (.ref o1), .val (.ref o6), .val (.ref o27), .val (.int (p2 &&& (3 : Int32))), .val (.int (f0_8 p1 p2)), .val (.int (f0_9 p1 p2)), .val (.int (f0_10 p1 p2)), .val (.int (f0_15 p1 p2))] [(.int (f0_20 p1 p2))])) t → Steps p.tables e below (T54.setTop (mkF m 262 #[.val (.int p1), .val (.int p2), .val (.ref o1), .val (.ref o6), .val (.ref o27), .val (.int (p2 &&& (3 : Int32))), .val (.int (f0_8 p1 p2)), .val (.int (f0_9 p1 p2)), .val (.int (f0_10 p1 p2)), .val (.int (f0_15 p1 p2))] [(.int (f0_19 p1 p2)), (.int (f0_14 p1 p2))])) t := by
                  intro t k
                  by_cases h55 : (f0_14 p1 p2) = (f0_19 p1 p2)
                  · rw [show (f0_20 p1 p2) = (1 : Int32) from if_pos h55] at k
                    show Steps p.tables e below (T54.setTop (mkF m 262 #[.val (.int p1), .val (.int p2), .val (.ref o1), .val (.ref o6), .val (.ref o27), .val (.int (p2 &&& (3 : Int32))), .val (.int (f0_8 p1 p2)), .val (.int (f0_9 p1 p2)), .val (.int (f0_10 p1 p2)), .val (.int (f0_15 p1 p2))] [(.int (f0_19 p1 p2)), (.int (f0_14 p1 p2))])) _
                    refine XS.icmpNo X54.here hx rfl (hb hby at_262) rfl (teq h55).2 ?_
                    show Steps p.tables e below (T54.setTop (mkF m 265 #[.val (.int p1), .val (.int p2), .val (.ref o1), .val (.ref o6), .val (.ref o27), .val (.int (p2 &&& (3 : Int32))), .val (.int (f0_8 p1 p2)), .val (.int (f0_9 p1 p2)), .val (.int (f0_10 p1 p2)), .val (.int (f0_15 p1 p2))] [])) _
                    refine XS.iconst X54.here hx rfl (hb hby at_265) ?_
                    show Steps p.tables e below (T54.setTop (mkF m 266 #[.val (.int p1), .val (.int p2), .val (.ref o1), .val (.ref o6), .val (.ref o27), .val (.int (p2 &&& (3 : Int32))), .val (.int (f0_8 p1 p2)), .val (.int (f0_9 p1 p2)), .val (.int (f0_10 p1 p2)), .val (.int (f0_15 p1 p2))] [(.int (1 : Int32))])) _
                    refine XS.goto X54.here hx rfl (pc0 := 266) (pc' := 270) rfl (hb hby at_266) (by decide) (by decide) ?_
                    exact k
                  · rw [show (f0_20 p1 p2) = (0 : Int32) from if_neg h55] at k
                    show Steps p.tables e below (T54.setTop (mkF m 262 #[.val (.int p1), .val (.int p2), .val (.ref o1), .val (.ref o6), .val (.ref o27), .val (.int (p2 &&& (3 : Int32))), .val (.int (f0_8 p1 p2)), .val (.int (f0_9 p1 p2)), .val (.int (f0_10 p1 p2)), .val (.int (f0_15 p1 p2))] [(.int (f0_19 p1 p2)), (.int (f0_14 p1 p2))])) _
                    refine XS.icmpYes X54.here hx rfl (pc0 := 262) (pc' := 269) rfl (hb hby at_262) rfl (feq h55).2 (by decide) (by decide) ?_
                    show Steps p.tables e below (T54.setTop (mkF m 269 #[.val (.int p1), .val (.int p2), .val (.ref o1), .val (.ref o6), .val (.ref o27), .val (.int (p2 &&& (3 : Int32))), .val (.int (f0_8 p1 p2)), .val (.int (f0_9 p1 p2)), .val (.int (f0_10 p1 p2)), .val (.int (f0_15 p1 p2))] [])) _
                    refine XS.iconst X54.here hx rfl (hb hby at_269) ?_
                    exact k
                refine ⟨T54, _, X54, e54, N54, fun t k => ?_⟩
                rw [show (f0_21 p1 p2) = (f0_20 p1 p2) from if_pos h52] at k
                show Steps p.tables e below (T51.setTop (mkF m 242 #[.val (.int p1), .val (.int p2), .val (.ref o1), .val (.ref o6), .val (.ref o27), .val (.int (p2 &&& (3 : Int32))), .val (.int (f0_8 p1 p2)), .val (.int (f0_9 p1 p2)), .val (.int (f0_10 p1 p2)), .val (.int (f0_15 p1 p2))] [(.int (f0_18 p1 p2)), (.int (f0_13 p1 p2))])) _
                refine XS.icmpNo X51.here hx rfl (hb hby at_242) rfl (teq h52).2 ?_
                show Steps p.tables e below (T51.setTop (mkF m 245 #[.val (.int p1), .val (.int p2), .val (.ref o1), .val (.ref o6), .val (.ref o27), .val (.int (p2 &&& (3 : Int32))), .val (.int (f0_8 p1 p2)), .val (.int (f0_9 p1 p2)), .val (.int (f0_10 p1 p2)), .val (.int (f0_15 p1 p2))] [])) _
                refine XS.aload X51.here hx rfl (hb hby at_245) rfl rfl ?_
                show Steps p.tables e below (T51.setTop (mkF m 247 #[.val (.int p1), .val (.int p2), .val (.ref o1), .val (.ref o6), .val (.ref o27), .val (.int (p2 &&& (3 : Int32))), .val (.int (f0_8 p1 p2)), .val (.int (f0_9 p1 p2)), .val (.int (f0_10 p1 p2)), .val (.int (f0_15 p1 p2))] [(.ref o27)])) _
                refine XS.iconst X51.here hx rfl (hb hby at_247) ?_
                show Steps p.tables e below (T51.setTop (mkF m 248 #[.val (.int p1), .val (.int p2), .val (.ref o1), .val (.ref o6), .val (.ref o27), .val (.int (p2 &&& (3 : Int32))), .val (.int (f0_8 p1 p2)), .val (.int (f0_9 p1 p2)), .val (.int (f0_10 p1 p2)), .val (.int (f0_15 p1 p2))] [(.int (3 : Int32)), (.ref o27)])) _
                refine X51.iaload hx (j := (3 : Int32)) (v := (.int (f0_14 p1 p2))) (by rw [e51]; exact Ar53.1) (State.isArrayOf_alike hZ.alike Ar53.2.1) Ar53.2.2 hin53 hat53 (g := (mkF m 248 #[.val (.int p1), .val (.int p2), .val (.ref o1), .val (.ref o6), .val (.ref o27), .val (.int (p2 &&& (3 : Int32))), .val (.int (f0_8 p1 p2)), .val (.int (f0_9 p1 p2)), .val (.int (f0_10 p1 p2)), .val (.int (f0_15 p1 p2))] [(.int (3 : Int32)), (.ref o27)])) rfl rfl (hb hby at_248) _ ?_
                show Steps p.tables e below (T51.setTop (mkF m 249 #[.val (.int p1), .val (.int p2), .val (.ref o1), .val (.ref o6), .val (.ref o27), .val (.int (p2 &&& (3 : Int32))), .val (.int (f0_8 p1 p2)), .val (.int (f0_9 p1 p2)), .val (.int (f0_10 p1 p2)), .val (.int (f0_15 p1 p2))] [(.int (f0_14 p1 p2))])) _
                refine XS.aloadN X51.here hx rfl (hb hby at_249) rfl rfl ?_
                show Steps p.tables e below (T51.setTop (mkF m 250 #[.val (.int p1), .val (.int p2), .val (.ref o1), .val (.ref o6), .val (.ref o27), .val (.int (p2 &&& (3 : Int32))), .val (.int (f0_8 p1 p2)), .val (.int (f0_9 p1 p2)), .val (.int (f0_10 p1 p2)), .val (.int (f0_15 p1 p2))] [(.ref o6), (.int (f0_14 p1 p2))])) _
                refine XS.iconst X51.here hx rfl (hb hby at_250) ?_
                show Steps p.tables e below (T51.setTop (mkF m 251 #[.val (.int p1), .val (.int p2), .val (.ref o1), .val (.ref o6), .val (.ref o27), .val (.int (p2 &&& (3 : Int32))), .val (.int (f0_8 p1 p2)), .val (.int (f0_9 p1 p2)), .val (.int (f0_10 p1 p2)), .val (.int (f0_15 p1 p2))] [(.int (3 : Int32)), (.ref o6), (.int (f0_14 p1 p2))])) _
                refine XS.iload X51.here hx rfl (hb hby at_251) rfl ?_
                show Steps p.tables e below (T51.setTop (mkF m 253 #[.val (.int p1), .val (.int p2), .val (.ref o1), .val (.ref o6), .val (.ref o27), .val (.int (p2 &&& (3 : Int32))), .val (.int (f0_8 p1 p2)), .val (.int (f0_9 p1 p2)), .val (.int (f0_10 p1 p2)), .val (.int (f0_15 p1 p2))] [(.int (p2 &&& (3 : Int32))), (.int (3 : Int32)), (.ref o6), (.int (f0_14 p1 p2))])) _
                refine XS.iload X51.here hx rfl (hb hby at_253) rfl ?_
                show Steps p.tables e below (T51.setTop (mkF m 255 #[.val (.int p1), .val (.int p2), .val (.ref o1), .val (.ref o6), .val (.ref o27), .val (.int (p2 &&& (3 : Int32))), .val (.int (f0_8 p1 p2)), .val (.int (f0_9 p1 p2)), .val (.int (f0_10 p1 p2)), .val (.int (f0_15 p1 p2))] [(.int (f0_8 p1 p2)), (.int (p2 &&& (3 : Int32))), (.int (3 : Int32)), (.ref o6), (.int (f0_14 p1 p2))])) _
                refine XS.iload X51.here hx rfl (hb hby at_255) rfl ?_
                show Steps p.tables e below (T51.setTop (mkF m 257 #[.val (.int p1), .val (.int p2), .val (.ref o1), .val (.ref o6), .val (.ref o27), .val (.int (p2 &&& (3 : Int32))), .val (.int (f0_8 p1 p2)), .val (.int (f0_9 p1 p2)), .val (.int (f0_10 p1 p2)), .val (.int (f0_15 p1 p2))] [(.int (f0_9 p1 p2)), (.int (f0_8 p1 p2)), (.int (p2 &&& (3 : Int32))), (.int (3 : Int32)), (.ref o6), (.int (f0_14 p1 p2))])) _
                refine XS.iload X51.here hx rfl (hb hby at_257) rfl ?_
                show Steps p.tables e below (T51.setTop (mkF m 259 #[.val (.int p1), .val (.int p2), .val (.ref o1), .val (.ref o6), .val (.ref o27), .val (.int (p2 &&& (3 : Int32))), .val (.int (f0_8 p1 p2)), .val (.int (f0_9 p1 p2)), .val (.int (f0_10 p1 p2)), .val (.int (f0_15 p1 p2))] [(.int (f0_10 p1 p2)), (.int (f0_9 p1 p2)), (.int (f0_8 p1 p2)), (.int (p2 &&& (3 : Int32))), (.int (3 : Int32)), (.ref o6), (.int (f0_14 p1 p2))])) _
                refine st54 _ ?_
                show Steps p.tables e below (T54.setTop (mkF m 262 #[.val (.int p1), .val (.int p2), .val (.ref o1), .val (.ref o6), .val (.ref o27), .val (.int (p2 &&& (3 : Int32))), .val (.int (f0_8 p1 p2)), .val (.int (f0_9 p1 p2)), .val (.int (f0_10 p1 p2)), .val (.int (f0_15 p1 p2))] [(.int (f0_19 p1 p2)), (.int (f0_14 p1 p2))])) _
                refine st56 _ ?_
                exact k
              · refine ⟨T51, _, X51, e51, N51, fun t k => ?_⟩
                rw [show (f0_21 p1 p2) = (0 : Int32) from if_neg h52] at k
                show Steps p.tables e below (T51.setTop (mkF m 242 #[.val (.int p1), .val (.int p2), .val (.ref o1), .val (.ref o6), .val (.ref o27), .val (.int (p2 &&& (3 : Int32))), .val (.int (f0_8 p1 p2)), .val (.int (f0_9 p1 p2)), .val (.int (f0_10 p1 p2)), .val (.int (f0_15 p1 p2))] [(.int (f0_18 p1 p2)), (.int (f0_13 p1 p2))])) _
                refine XS.icmpYes X51.here hx rfl (pc0 := 242) (pc' := 269) rfl (hb hby at_242) rfl (feq h52).2 (by decide) (by decide) ?_
                show Steps p.tables e below (T51.setTop (mkF m 269 #[.val (.int p1), .val (.int p2), .val (.ref o1), .val (.ref o6), .val (.ref o27), .val (.int (p2 &&& (3 : Int32))), .val (.int (f0_8 p1 p2)), .val (.int (f0_9 p1 p2)), .val (.int (f0_10 p1 p2)), .val (.int (f0_15 p1 p2))] [])) _
                refine XS.iconst X51.here hx rfl (hb hby at_269) ?_
                exact k
            refine ⟨T57, _, X57, e57, N57, fun t k => ?_⟩
            rw [show (f0_22 p1 p2) = (f0_21 p1 p2) from if_pos h49] at k
            show Steps p.tables e below (T48.setTop (mkF m 222 #[.val (.int p1), .val (.int p2), .val (.ref o1), .val (.ref o6), .val (.ref o27), .val (.int (p2 &&& (3 : Int32))), .val (.int (f0_8 p1 p2)), .val (.int (f0_9 p1 p2)), .val (.int (f0_10 p1 p2)), .val (.int (f0_15 p1 p2))] [(.int (f0_17 p1 p2)), (.int (f0_12 p1 p2))])) _
            refine XS.icmpNo X48.here hx rfl (hb hby at_222) rfl (teq h49).2 ?_
            show Steps p.tables e below (T48.setTop (mkF m 225 #[.val (.int p1), .val (.int p2), .val (.ref o1), .val (.ref o6), .val (.ref o27), .val (.int (p2 &&& (3 : Int32))), .val (.int (f0_8 p1 p2)), .val (.int (f0_9 p1 p2)), .val (.int (f0_10 p1 p2)), .val (.int (f0_15 p1 p2))] [])) _
            refine XS.aload X48.here hx rfl (hb hby at_225) rfl rfl ?_
            show Steps p.tables e below (T48.setTop (mkF m 227 #[.val (.int p1), .val (.int p2), .val (.ref o1), .val (.ref o6), .val (.ref o27), .val (.int (p2 &&& (3 : Int32))), .val (.int (f0_8 p1 p2)), .val (.int (f0_9 p1 p2)), .val (.int (f0_10 p1 p2)), .val (.int (f0_15 p1 p2))] [(.ref o27)])) _
            refine XS.iconst X48.here hx rfl (hb hby at_227) ?_
            show Steps p.tables e below (T48.setTop (mkF m 228 #[.val (.int p1), .val (.int p2), .val (.ref o1), .val (.ref o6), .val (.ref o27), .val (.int (p2 &&& (3 : Int32))), .val (.int (f0_8 p1 p2)), .val (.int (f0_9 p1 p2)), .val (.int (f0_10 p1 p2)), .val (.int (f0_15 p1 p2))] [(.int (2 : Int32)), (.ref o27)])) _
            refine X48.iaload hx (j := (2 : Int32)) (v := (.int (f0_13 p1 p2))) (by rw [e48]; exact Ar50.1) (State.isArrayOf_alike hZ.alike Ar50.2.1) Ar50.2.2 hin50 hat50 (g := (mkF m 228 #[.val (.int p1), .val (.int p2), .val (.ref o1), .val (.ref o6), .val (.ref o27), .val (.int (p2 &&& (3 : Int32))), .val (.int (f0_8 p1 p2)), .val (.int (f0_9 p1 p2)), .val (.int (f0_10 p1 p2)), .val (.int (f0_15 p1 p2))] [(.int (2 : Int32)), (.ref o27)])) rfl rfl (hb hby at_228) _ ?_
            show Steps p.tables e below (T48.setTop (mkF m 229 #[.val (.int p1), .val (.int p2), .val (.ref o1), .val (.ref o6), .val (.ref o27), .val (.int (p2 &&& (3 : Int32))), .val (.int (f0_8 p1 p2)), .val (.int (f0_9 p1 p2)), .val (.int (f0_10 p1 p2)), .val (.int (f0_15 p1 p2))] [(.int (f0_13 p1 p2))])) _
            refine XS.aloadN X48.here hx rfl (hb hby at_229) rfl rfl ?_
            show Steps p.tables e below (T48.setTop (mkF m 230 #[.val (.int p1), .val (.int p2), .val (.ref o1), .val (.ref o6), .val (.ref o27), .val (.int (p2 &&& (3 : Int32))), .val (.int (f0_8 p1 p2)), .val (.int (f0_9 p1 p2)), .val (.int (f0_10 p1 p2)), .val (.int (f0_15 p1 p2))] [(.ref o6), (.int (f0_13 p1 p2))])) _
            refine XS.iconst X48.here hx rfl (hb hby at_230) ?_
            show Steps p.tables e below (T48.setTop (mkF m 231 #[.val (.int p1), .val (.int p2), .val (.ref o1), .val (.ref o6), .val (.ref o27), .val (.int (p2 &&& (3 : Int32))), .val (.int (f0_8 p1 p2)), .val (.int (f0_9 p1 p2)), .val (.int (f0_10 p1 p2)), .val (.int (f0_15 p1 p2))] [(.int (2 : Int32)), (.ref o6), (.int (f0_13 p1 p2))])) _
            refine XS.iload X48.here hx rfl (hb hby at_231) rfl ?_
            show Steps p.tables e below (T48.setTop (mkF m 233 #[.val (.int p1), .val (.int p2), .val (.ref o1), .val (.ref o6), .val (.ref o27), .val (.int (p2 &&& (3 : Int32))), .val (.int (f0_8 p1 p2)), .val (.int (f0_9 p1 p2)), .val (.int (f0_10 p1 p2)), .val (.int (f0_15 p1 p2))] [(.int (p2 &&& (3 : Int32))), (.int (2 : Int32)), (.ref o6), (.int (f0_13 p1 p2))])) _
            refine XS.iload X48.here hx rfl (hb hby at_233) rfl ?_
            show Steps p.tables e below (T48.setTop (mkF m 235 #[.val (.int p1), .val (.int p2), .val (.ref o1), .val (.ref o6), .val (.ref o27), .val (.int (p2 &&& (3 : Int32))), .val (.int (f0_8 p1 p2)), .val (.int (f0_9 p1 p2)), .val (.int (f0_10 p1 p2)), .val (.int (f0_15 p1 p2))] [(.int (f0_8 p1 p2)), (.int (p2 &&& (3 : Int32))), (.int (2 : Int32)), (.ref o6), (.int (f0_13 p1 p2))])) _
            refine XS.iload X48.here hx rfl (hb hby at_235) rfl ?_
            show Steps p.tables e below (T48.setTop (mkF m 237 #[.val (.int p1), .val (.int p2), .val (.ref o1), .val (.ref o6), .val (.ref o27), .val (.int (p2 &&& (3 : Int32))), .val (.int (f0_8 p1 p2)), .val (.int (f0_9 p1 p2)), .val (.int (f0_10 p1 p2)), .val (.int (f0_15 p1 p2))] [(.int (f0_9 p1 p2)), (.int (f0_8 p1 p2)), (.int (p2 &&& (3 : Int32))), (.int (2 : Int32)), (.ref o6), (.int (f0_13 p1 p2))])) _
            refine XS.iload X48.here hx rfl (hb hby at_237) rfl ?_
            show Steps p.tables e below (T48.setTop (mkF m 239 #[.val (.int p1), .val (.int p2), .val (.ref o1), .val (.ref o6), .val (.ref o27), .val (.int (p2 &&& (3 : Int32))), .val (.int (f0_8 p1 p2)), .val (.int (f0_9 p1 p2)), .val (.int (f0_10 p1 p2)), .val (.int (f0_15 p1 p2))] [(.int (f0_10 p1 p2)), (.int (f0_9 p1 p2)), (.int (f0_8 p1 p2)), (.int (p2 &&& (3 : Int32))), (.int (2 : Int32)), (.ref o6), (.int (f0_13 p1 p2))])) _
            refine st51 _ ?_
            show Steps p.tables e below (T51.setTop (mkF m 242 #[.val (.int p1), .val (.int p2), .val (.ref o1), .val (.ref o6), .val (.ref o27), .val (.int (p2 &&& (3 : Int32))), .val (.int (f0_8 p1 p2)), .val (.int (f0_9 p1 p2)), .val (.int (f0_10 p1 p2)), .val (.int (f0_15 p1 p2))] [(.int (f0_18 p1 p2)), (.int (f0_13 p1 p2))])) _
            refine st57 _ ?_
            exact k
          · refine ⟨T48, _, X48, e48, N48, fun t k => ?_⟩
            rw [show (f0_22 p1 p2) = (0 : Int32) from if_neg h49] at k
            show Steps p.tables e below (T48.setTop (mkF m 222 #[.val (.int p1), .val (.int p2), .val (.ref o1), .val (.ref o6), .val (.ref o27), .val (.int (p2 &&& (3 : Int32))), .val (.int (f0_8 p1 p2)), .val (.int (f0_9 p1 p2)), .val (.int (f0_10 p1 p2)), .val (.int (f0_15 p1 p2))] [(.int (f0_17 p1 p2)), (.int (f0_12 p1 p2))])) _
            refine XS.icmpYes X48.here hx rfl (pc0 := 222) (pc' := 269) rfl (hb hby at_222) rfl (feq h49).2 (by decide) (by decide) ?_
            show Steps p.tables e below (T48.setTop (mkF m 269 #[.val (.int p1), .val (.int p2), .val (.ref o1), .val (.ref o6), .val (.ref o27), .val (.int (p2 &&& (3 : Int32))), .val (.int (f0_8 p1 p2)), .val (.int (f0_9 p1 p2)), .val (.int (f0_10 p1 p2)), .val (.int (f0_15 p1 p2))] [])) _
            refine XS.iconst X48.here hx rfl (hb hby at_269) ?_
            exact k
        refine ⟨T58, _, X58, e58, N58, fun t k => ?_⟩
        rw [show (f0_23 p1 p2) = (f0_22 p1 p2) from if_pos h46] at k
        show Steps p.tables e below (T45.setTop (mkF m 202 #[.val (.int p1), .val (.int p2), .val (.ref o1), .val (.ref o6), .val (.ref o27), .val (.int (p2 &&& (3 : Int32))), .val (.int (f0_8 p1 p2)), .val (.int (f0_9 p1 p2)), .val (.int (f0_10 p1 p2)), .val (.int (f0_15 p1 p2))] [(.int (f0_16 p1 p2)), (.int (f0_11 p1 p2))])) _
        refine XS.icmpNo X45.here hx rfl (hb hby at_202) rfl (teq h46).2 ?_
        show Steps p.tables e below (T45.setTop (mkF m 205 #[.val (.int p1), .val (.int p2), .val (.ref o1), .val (.ref o6), .val (.ref o27), .val (.int (p2 &&& (3 : Int32))), .val (.int (f0_8 p1 p2)), .val (.int (f0_9 p1 p2)), .val (.int (f0_10 p1 p2)), .val (.int (f0_15 p1 p2))] [])) _
        refine XS.aload X45.here hx rfl (hb hby at_205) rfl rfl ?_
        show Steps p.tables e below (T45.setTop (mkF m 207 #[.val (.int p1), .val (.int p2), .val (.ref o1), .val (.ref o6), .val (.ref o27), .val (.int (p2 &&& (3 : Int32))), .val (.int (f0_8 p1 p2)), .val (.int (f0_9 p1 p2)), .val (.int (f0_10 p1 p2)), .val (.int (f0_15 p1 p2))] [(.ref o27)])) _
        refine XS.iconst X45.here hx rfl (hb hby at_207) ?_
        show Steps p.tables e below (T45.setTop (mkF m 208 #[.val (.int p1), .val (.int p2), .val (.ref o1), .val (.ref o6), .val (.ref o27), .val (.int (p2 &&& (3 : Int32))), .val (.int (f0_8 p1 p2)), .val (.int (f0_9 p1 p2)), .val (.int (f0_10 p1 p2)), .val (.int (f0_15 p1 p2))] [(.int (1 : Int32)), (.ref o27)])) _
        refine X45.iaload hx (j := (1 : Int32)) (v := (.int (f0_12 p1 p2))) (by rw [e45]; exact Ar47.1) (State.isArrayOf_alike hZ.alike Ar47.2.1) Ar47.2.2 hin47 hat47 (g := (mkF m 208 #[.val (.int p1), .val (.int p2), .val (.ref o1), .val (.ref o6), .val (.ref o27), .val (.int (p2 &&& (3 : Int32))), .val (.int (f0_8 p1 p2)), .val (.int (f0_9 p1 p2)), .val (.int (f0_10 p1 p2)), .val (.int (f0_15 p1 p2))] [(.int (1 : Int32)), (.ref o27)])) rfl rfl (hb hby at_208) _ ?_
        show Steps p.tables e below (T45.setTop (mkF m 209 #[.val (.int p1), .val (.int p2), .val (.ref o1), .val (.ref o6), .val (.ref o27), .val (.int (p2 &&& (3 : Int32))), .val (.int (f0_8 p1 p2)), .val (.int (f0_9 p1 p2)), .val (.int (f0_10 p1 p2)), .val (.int (f0_15 p1 p2))] [(.int (f0_12 p1 p2))])) _
        refine XS.aloadN X45.here hx rfl (hb hby at_209) rfl rfl ?_
        show Steps p.tables e below (T45.setTop (mkF m 210 #[.val (.int p1), .val (.int p2), .val (.ref o1), .val (.ref o6), .val (.ref o27), .val (.int (p2 &&& (3 : Int32))), .val (.int (f0_8 p1 p2)), .val (.int (f0_9 p1 p2)), .val (.int (f0_10 p1 p2)), .val (.int (f0_15 p1 p2))] [(.ref o6), (.int (f0_12 p1 p2))])) _
        refine XS.iconst X45.here hx rfl (hb hby at_210) ?_
        show Steps p.tables e below (T45.setTop (mkF m 211 #[.val (.int p1), .val (.int p2), .val (.ref o1), .val (.ref o6), .val (.ref o27), .val (.int (p2 &&& (3 : Int32))), .val (.int (f0_8 p1 p2)), .val (.int (f0_9 p1 p2)), .val (.int (f0_10 p1 p2)), .val (.int (f0_15 p1 p2))] [(.int (1 : Int32)), (.ref o6), (.int (f0_12 p1 p2))])) _
        refine XS.iload X45.here hx rfl (hb hby at_211) rfl ?_
        show Steps p.tables e below (T45.setTop (mkF m 213 #[.val (.int p1), .val (.int p2), .val (.ref o1), .val (.ref o6), .val (.ref o27), .val (.int (p2 &&& (3 : Int32))), .val (.int (f0_8 p1 p2)), .val (.int (f0_9 p1 p2)), .val (.int (f0_10 p1 p2)), .val (.int (f0_15 p1 p2))] [(.int (p2 &&& (3 : Int32))), (.int (1 : Int32)), (.ref o6), (.int (f0_12 p1 p2))])) _
        refine XS.iload X45.here hx rfl (hb hby at_213) rfl ?_
        show Steps p.tables e below (T45.setTop (mkF m 215 #[.val (.int p1), .val (.int p2), .val (.ref o1), .val (.ref o6), .val (.ref o27), .val (.int (p2 &&& (3 : Int32))), .val (.int (f0_8 p1 p2)), .val (.int (f0_9 p1 p2)), .val (.int (f0_10 p1 p2)), .val (.int (f0_15 p1 p2))] [(.int (f0_8 p1 p2)), (.int (p2 &&& (3 : Int32))), (.int (1 : Int32)), (.ref o6), (.int (f0_12 p1 p2))])) _
        refine XS.iload X45.here hx rfl (hb hby at_215) rfl ?_
        show Steps p.tables e below (T45.setTop (mkF m 217 #[.val (.int p1), .val (.int p2), .val (.ref o1), .val (.ref o6), .val (.ref o27), .val (.int (p2 &&& (3 : Int32))), .val (.int (f0_8 p1 p2)), .val (.int (f0_9 p1 p2)), .val (.int (f0_10 p1 p2)), .val (.int (f0_15 p1 p2))] [(.int (f0_9 p1 p2)), (.int (f0_8 p1 p2)), (.int (p2 &&& (3 : Int32))), (.int (1 : Int32)), (.ref o6), (.int (f0_12 p1 p2))])) _
        refine XS.iload X45.here hx rfl (hb hby at_217) rfl ?_
        show Steps p.tables e below (T45.setTop (mkF m 219 #[.val (.int p1), .val (.int p2), .val (.ref o1), .val (.ref o6), .val (.ref o27), .val (.int (p2 &&& (3 : Int32))), .val (.int (f0_8 p1 p2)), .val (.int (f0_9 p1 p2)), .val (.int (f0_10 p1 p2)), .val (.int (f0_15 p1 p2))] [(.int (f0_10 p1 p2)), (.int (f0_9 p1 p2)), (.int (f0_8 p1 p2)), (.int (p2 &&& (3 : Int32))), (.int (1 : Int32)), (.ref o6), (.int (f0_12 p1 p2))])) _
        refine st48 _ ?_
        show Steps p.tables e below (T48.setTop (mkF m 222 #[.val (.int p1), .val (.int p2), .val (.ref o1), .val (.ref o6), .val (.ref o27), .val (.int (p2 &&& (3 : Int32))), .val (.int (f0_8 p1 p2)), .val (.int (f0_9 p1 p2)), .val (.int (f0_10 p1 p2)), .val (.int (f0_15 p1 p2))] [(.int (f0_17 p1 p2)), (.int (f0_12 p1 p2))])) _
        refine st58 _ ?_
        exact k
      · refine ⟨T45, _, X45, e45, N45, fun t k => ?_⟩
        rw [show (f0_23 p1 p2) = (0 : Int32) from if_neg h46] at k
        show Steps p.tables e below (T45.setTop (mkF m 202 #[.val (.int p1), .val (.int p2), .val (.ref o1), .val (.ref o6), .val (.ref o27), .val (.int (p2 &&& (3 : Int32))), .val (.int (f0_8 p1 p2)), .val (.int (f0_9 p1 p2)), .val (.int (f0_10 p1 p2)), .val (.int (f0_15 p1 p2))] [(.int (f0_16 p1 p2)), (.int (f0_11 p1 p2))])) _
        refine XS.icmpYes X45.here hx rfl (pc0 := 202) (pc' := 269) rfl (hb hby at_202) rfl (feq h46).2 (by decide) (by decide) ?_
        show Steps p.tables e below (T45.setTop (mkF m 269 #[.val (.int p1), .val (.int p2), .val (.ref o1), .val (.ref o6), .val (.ref o27), .val (.int (p2 &&& (3 : Int32))), .val (.int (f0_8 p1 p2)), .val (.int (f0_9 p1 p2)), .val (.int (f0_10 p1 p2)), .val (.int (f0_15 p1 p2))] [])) _
        refine XS.iconst X45.here hx rfl (hb hby at_269) ?_
        exact k
    obtain ⟨fs, hr, hrun, hended, hW, hsame⟩ := X59.leave (v := some (.int ((f0_23 p1 p2) &&& 1))) (fun h => by rw [Bd.returns] at h; cases h)
    refine ⟨_, _, ?_, hrun, hended, _, _, rfl, ?_, ⟨_, rfl⟩, hW, hsame.mono (by decide) (by decide)⟩
    · show Steps p.tables e below (T42.setTop (mkF m 180 #[.val (.int p1), .val (.int p2), .val (.ref o1), .val (.ref o6), .val (.ref o27), .val (.int (p2 &&& (3 : Int32))), .val (.int (f0_8 p1 p2)), .val (.int (f0_9 p1 p2)), .val (.int (f0_10 p1 p2)), .val (.int (f0_15 p1 p2))] [(.int (f0_10 p1 p2)), (.int (f0_15 p1 p2))])) _
      refine XS.icmpYes X42.here hx rfl (pc0 := 180) (pc' := 185) rfl (hb hby at_180) rfl (teq h43).1 (by decide) (by decide) ?_
      show Steps p.tables e below (T42.setTop (mkF m 185 #[.val (.int p1), .val (.int p2), .val (.ref o1), .val (.ref o6), .val (.ref o27), .val (.int (p2 &&& (3 : Int32))), .val (.int (f0_8 p1 p2)), .val (.int (f0_9 p1 p2)), .val (.int (f0_10 p1 p2)), .val (.int (f0_15 p1 p2))] [])) _
      refine XS.aload X42.here hx rfl (hb hby at_185) rfl rfl ?_
      show Steps p.tables e below (T42.setTop (mkF m 187 #[.val (.int p1), .val (.int p2), .val (.ref o1), .val (.ref o6), .val (.ref o27), .val (.int (p2 &&& (3 : Int32))), .val (.int (f0_8 p1 p2)), .val (.int (f0_9 p1 p2)), .val (.int (f0_10 p1 p2)), .val (.int (f0_15 p1 p2))] [(.ref o27)])) _
      refine XS.iconst X42.here hx rfl (hb hby at_187) ?_
      show Steps p.tables e below (T42.setTop (mkF m 188 #[.val (.int p1), .val (.int p2), .val (.ref o1), .val (.ref o6), .val (.ref o27), .val (.int (p2 &&& (3 : Int32))), .val (.int (f0_8 p1 p2)), .val (.int (f0_9 p1 p2)), .val (.int (f0_10 p1 p2)), .val (.int (f0_15 p1 p2))] [(.int (0 : Int32)), (.ref o27)])) _
      refine X42.iaload hx (j := (0 : Int32)) (v := (.int (f0_11 p1 p2))) Ar44.1 (State.isArrayOf_alike hZ.alike Ar44.2.1) Ar44.2.2 hin44 hat44 (g := (mkF m 188 #[.val (.int p1), .val (.int p2), .val (.ref o1), .val (.ref o6), .val (.ref o27), .val (.int (p2 &&& (3 : Int32))), .val (.int (f0_8 p1 p2)), .val (.int (f0_9 p1 p2)), .val (.int (f0_10 p1 p2)), .val (.int (f0_15 p1 p2))] [(.int (0 : Int32)), (.ref o27)])) rfl rfl (hb hby at_188) _ ?_
      show Steps p.tables e below (T42.setTop (mkF m 189 #[.val (.int p1), .val (.int p2), .val (.ref o1), .val (.ref o6), .val (.ref o27), .val (.int (p2 &&& (3 : Int32))), .val (.int (f0_8 p1 p2)), .val (.int (f0_9 p1 p2)), .val (.int (f0_10 p1 p2)), .val (.int (f0_15 p1 p2))] [(.int (f0_11 p1 p2))])) _
      refine XS.aloadN X42.here hx rfl (hb hby at_189) rfl rfl ?_
      show Steps p.tables e below (T42.setTop (mkF m 190 #[.val (.int p1), .val (.int p2), .val (.ref o1), .val (.ref o6), .val (.ref o27), .val (.int (p2 &&& (3 : Int32))), .val (.int (f0_8 p1 p2)), .val (.int (f0_9 p1 p2)), .val (.int (f0_10 p1 p2)), .val (.int (f0_15 p1 p2))] [(.ref o6), (.int (f0_11 p1 p2))])) _
      refine XS.iconst X42.here hx rfl (hb hby at_190) ?_
      show Steps p.tables e below (T42.setTop (mkF m 191 #[.val (.int p1), .val (.int p2), .val (.ref o1), .val (.ref o6), .val (.ref o27), .val (.int (p2 &&& (3 : Int32))), .val (.int (f0_8 p1 p2)), .val (.int (f0_9 p1 p2)), .val (.int (f0_10 p1 p2)), .val (.int (f0_15 p1 p2))] [(.int (0 : Int32)), (.ref o6), (.int (f0_11 p1 p2))])) _
      refine XS.iload X42.here hx rfl (hb hby at_191) rfl ?_
      show Steps p.tables e below (T42.setTop (mkF m 193 #[.val (.int p1), .val (.int p2), .val (.ref o1), .val (.ref o6), .val (.ref o27), .val (.int (p2 &&& (3 : Int32))), .val (.int (f0_8 p1 p2)), .val (.int (f0_9 p1 p2)), .val (.int (f0_10 p1 p2)), .val (.int (f0_15 p1 p2))] [(.int (p2 &&& (3 : Int32))), (.int (0 : Int32)), (.ref o6), (.int (f0_11 p1 p2))])) _
      refine XS.iload X42.here hx rfl (hb hby at_193) rfl ?_
      show Steps p.tables e below (T42.setTop (mkF m 195 #[.val (.int p1), .val (.int p2), .val (.ref o1), .val (.ref o6), .val (.ref o27), .val (.int (p2 &&& (3 : Int32))), .val (.int (f0_8 p1 p2)), .val (.int (f0_9 p1 p2)), .val (.int (f0_10 p1 p2)), .val (.int (f0_15 p1 p2))] [(.int (f0_8 p1 p2)), (.int (p2 &&& (3 : Int32))), (.int (0 : Int32)), (.ref o6), (.int (f0_11 p1 p2))])) _
      refine XS.iload X42.here hx rfl (hb hby at_195) rfl ?_
      show Steps p.tables e below (T42.setTop (mkF m 197 #[.val (.int p1), .val (.int p2), .val (.ref o1), .val (.ref o6), .val (.ref o27), .val (.int (p2 &&& (3 : Int32))), .val (.int (f0_8 p1 p2)), .val (.int (f0_9 p1 p2)), .val (.int (f0_10 p1 p2)), .val (.int (f0_15 p1 p2))] [(.int (f0_9 p1 p2)), (.int (f0_8 p1 p2)), (.int (p2 &&& (3 : Int32))), (.int (0 : Int32)), (.ref o6), (.int (f0_11 p1 p2))])) _
      refine XS.iload X42.here hx rfl (hb hby at_197) rfl ?_
      show Steps p.tables e below (T42.setTop (mkF m 199 #[.val (.int p1), .val (.int p2), .val (.ref o1), .val (.ref o6), .val (.ref o27), .val (.int (p2 &&& (3 : Int32))), .val (.int (f0_8 p1 p2)), .val (.int (f0_9 p1 p2)), .val (.int (f0_10 p1 p2)), .val (.int (f0_15 p1 p2))] [(.int (f0_10 p1 p2)), (.int (f0_9 p1 p2)), (.int (f0_8 p1 p2)), (.int (p2 &&& (3 : Int32))), (.int (0 : Int32)), (.ref o6), (.int (f0_11 p1 p2))])) _
      refine st45 _ ?_
      show Steps p.tables e below (T45.setTop (mkF m 202 #[.val (.int p1), .val (.int p2), .val (.ref o1), .val (.ref o6), .val (.ref o27), .val (.int (p2 &&& (3 : Int32))), .val (.int (f0_8 p1 p2)), .val (.int (f0_9 p1 p2)), .val (.int (f0_10 p1 p2)), .val (.int (f0_15 p1 p2))] [(.int (f0_16 p1 p2)), (.int (f0_11 p1 p2))])) _
      refine st59 _ ?_
      show Steps p.tables e below (T59.setTop (mkF m 270 #[.val (.int p1), .val (.int p2), .val (.ref o1), .val (.ref o6), .val (.ref o27), .val (.int (p2 &&& (3 : Int32))), .val (.int (f0_8 p1 p2)), .val (.int (f0_9 p1 p2)), .val (.int (f0_10 p1 p2)), .val (.int (f0_15 p1 p2))] [(.int (f0_23 p1 p2))])) _
      exact retN X59 hx (t := .boolean) Bd.returns (by simp) (hb hby at_270) hr
    · show Q0 Z p1 p2 h0 n0 _ T59.heap _
      rw [e59]
      exact ⟨congrArg (fun z => some (Value.int z)) ((show f0 p1 p2 = ((f0_23 p1 p2) &&& 1) from by simp only [f0, if_pos h43]).symm.trans (own_law p1 p2)), N59⟩
  · obtain ⟨fs, hr, hrun, hended, hW, hsame⟩ := X42.leave (v := some (.int (0 : Int32))) (fun h => by rw [Bd.returns] at h; cases h)
    refine ⟨_, _, ?_, hrun, hended, _, _, rfl, ?_, ⟨_, rfl⟩, hW, hsame.mono (by decide) (by decide)⟩
    · show Steps p.tables e below (T42.setTop (mkF m 180 #[.val (.int p1), .val (.int p2), .val (.ref o1), .val (.ref o6), .val (.ref o27), .val (.int (p2 &&& (3 : Int32))), .val (.int (f0_8 p1 p2)), .val (.int (f0_9 p1 p2)), .val (.int (f0_10 p1 p2)), .val (.int (f0_15 p1 p2))] [(.int (f0_10 p1 p2)), (.int (f0_15 p1 p2))])) _
      refine XS.icmpNo X42.here hx rfl (hb hby at_180) rfl (feq h43).1 ?_
      show Steps p.tables e below (T42.setTop (mkF m 183 #[.val (.int p1), .val (.int p2), .val (.ref o1), .val (.ref o6), .val (.ref o27), .val (.int (p2 &&& (3 : Int32))), .val (.int (f0_8 p1 p2)), .val (.int (f0_9 p1 p2)), .val (.int (f0_10 p1 p2)), .val (.int (f0_15 p1 p2))] [])) _
      refine XS.iconst X42.here hx rfl (hb hby at_183) ?_
      show Steps p.tables e below (T42.setTop (mkF m 184 #[.val (.int p1), .val (.int p2), .val (.ref o1), .val (.ref o6), .val (.ref o27), .val (.int (p2 &&& (3 : Int32))), .val (.int (f0_8 p1 p2)), .val (.int (f0_9 p1 p2)), .val (.int (f0_10 p1 p2)), .val (.int (f0_15 p1 p2))] [(.int (0 : Int32))])) _
      exact retN X42 hx (t := .boolean) Bd.returns (by simp) (hb hby at_184) hr
    · show Q0 Z p1 p2 h0 n0 _ T42.heap _
      exact ⟨congrArg (fun z => some (Value.int z)) ((show f0 p1 p2 = (0 : Int32) from by simp only [f0, if_neg h43]).symm.trans (own_law p1 p2)), N42⟩
set_option maxRecDepth 65536 in
set_option maxHeartbeats 40000000 in
theorem comes_1 {Post : Tables → Env → Array Value → State → Outcome → State → Prop} (hpost : ∀ tb e args s v u, (limb_1_1.after args s (.returned v) u = true ∧ limb_1_2.after args s (.returned v) u = true ∧ True) → FrameEnd s (.returned v) u (Jvm.fieldLocs frame_1_writes args s ++ Jvm.arrayLocs frame_1_arrays args s ++ Jvm.staticLocs frame_1_statics s) 16 128 → Post tb e args s (.returned v) u) :
    ArmFor flags0 classFile x code maxLocals ret World_1 tables_1 room_1 Calls_1 rest_1 Pre_1 Post := by
  intro l hfl _ _ p e ha hc hk s m args below hf hA hF happ hP
  obtain ⟨hcalls, hrest, hpre⟩ := hP
  obtain ⟨-, -, -, hnamed, -, -, -, hat⟩ := (Spec.applies_iff hf).mp happ
  obtain ⟨hg, hn⟩ := and_e (Cond.before_iff.mp (show (Jvm.Cond.and given_1 narrow_1).before args s = true from hpre))
  obtain ⟨hcnt, hg0⟩ := and_e hg
  obtain ⟨hi0, hg1⟩ := and_e hg0
  obtain ⟨w0, w1, rfl⟩ : ∃ w0 w1 : Value, args = #[w0, w1] := by
    have hs : args.size = 2 := by simpa [Cond.value, given_1] using hcnt
    obtain ⟨L⟩ := args
    match L, hs with
    | [w0, w1], _ => exact ⟨w0, w1, rfl⟩
  have hw := fun d (hd : d ∈ tables_1) => atoms_spec (ws := Jvm.Cond.code x code maxLocals ret :: tables_1) hat d (List.mem_cons_of_mem _ hd)
  have hfit : Fit s := fun {y c} hc i hi => by
    obtain ⟨ha, rfl⟩ := Array.getElem?_eq_some_iff.mp hc
    have q := List.all_eq_true.mp ((Array.all_eq_true_iff_forall_mem.mp hF) _ (Array.getElem_mem ha)) i (List.mem_range.mpr hi)
    simpa [Array.getElem?_eq_getElem hi] using q
  obtain ⟨i0, ei0⟩ := is_v hi0
  obtain rfl : w0 = (.int i0) := Option.some.inj ei0
  obtain ⟨i1, ei1⟩ := is_v hg1
  obtain rfl : w1 = (.int i1) := Option.some.inj ei1
  obtain ⟨n, o, h1, h2, h3, _, L, rfl, ⟨rfl, N⟩, hq⟩ := rm0 l s _ hw tables_1 i0 i1 s.heap s.heap.size (Nat.le_refl _) p e ha hc hk s m _ below hf ((Spec.applies_iff_loose hf).mp happ).1 ⟨rfl, State.Warmed39.refl s, rfl⟩ trivial
  refine ⟨n, _, h1, h2, h3, hpost _ _ _ _ _ _ ⟨Cond.after_iff.mpr rfl, Cond.after_iff.mpr (eq_i res_at (Term.int_eval (1)) rfl), trivial⟩ ⟨hq.1, hq.2.1, (hq.2.2.sift fun y hy => Or.inr (N y hy)).mono (by decide) (by decide)⟩⟩
theorem main_1_1 : Claimed_1_1 := comes_1 fun _ _ _ _ _ _ h hF => ⟨h.1, hF⟩
theorem main_1_2 : Claimed_1_2 := comes_1 fun _ _ _ _ _ _ h hF => ⟨h.2.1, hF⟩
end Jvm.Pilot.@@N@@
namespace Jvm.Pilot.@@N@@
open Jvm Jvm.ClassFile Sem Op Lib Jvm.Free Jvm.Stand Jvm.Pilot.@@N@@.Jvm.D
/-! MADE BY PROGRAM (witnessworld.py) out of the Statement's table words and the real class files: 9 classes; the members and pool entries that the words name. The judged class is class 1, her method 1. -/
namespace start1
open Jvm.ClassFile
def u (s : String) : CpInfo := .utf8 (stringToUtf16 s)
/-- a pool by its gaps: so many unusable entries, then the entry; so many at the end -/
def gap : Nat → List CpInfo → List CpInfo
  | 0, r => r
  | n + 1, r => .unusable :: gap n r
def poolList (es : List (Nat × CpInfo)) (last : Nat) : List CpInfo := es.foldr (fun e r => gap e.1 (e.2 :: r)) (gap last [])
def pool (es : List (Nat × CpInfo)) (last : Nat) : Array CpInfo := ⟨poolList es last⟩
def fileOf (pool : Array CpInfo) (this : Nat) (attrs : Array Attribute := #[]) (ms : Array MethodInfo := #[]) (fl : Nat := 33) (sup : Nat := 0) (ifs : Array Nat := #[]) (fds : Array FieldInfo := #[]) : ClassFile where
  minorVersion := 0
  majorVersion := 65
  constantPool := pool
  accessFlags := fl
  thisClass := this
  superClass := sup
  interfaces := ifs
  fields := fds
  methods := ms
  attributes := attrs
def plain (name : String) (sup : Option ClassId) : Class where
  name := name
  kind := .ordinary
  loader := none
  accessFlags := 33
  super := sup
  interfaces := #[]
  cf := none
  fields := #[]
  methods := #[]
  instanceTypes := #[]
  staticTypes := #[]
  resolved := #[]
  callSites := []
  init := .initialized
  statics := none
  mirror := none

def pool0 : Array CpInfo := pool [(5, u "<init>"), (0, u "()V"), (1, .class_ 10), (1, u "java/lang/Object")] 113

def k0m0 : Method := { name := "<init>", desc := "()V", sig := { parameters := [], returnType := none }, accessFlags := 1, code := none }
/-- java/lang/Object -/
def k0 : Class := { plain "java/lang/Object" none with
  accessFlags := 33
  interfaces := #[]
  cf := some (fileOf pool0 8 #[] #[{ accessFlags := 1, nameIndex := 5, descriptorIndex := 6, attributes := #[] }] 33 0 #[] #[])
  fields := #[]
  methods := #[k0m0]
  instanceTypes := #[]
  staticTypes := #[]
  resolved := Array.replicate 124 none
  statics := none }

def pool1 : Array CpInfo := pool [(2, .class_ 4), (1, u "java/lang/Object"), (0, u "<init>"), (0, u "()V"), (0, .methodref 8 9), (0, .class_ 10), (0, .nameAndType 11 12), (0, u "com/example/bonn/bonn/ValueGroupsRootPinLaw"), (0, u "onCycle"), (0, u "([II)Z"), (0, .methodref 14 15), (0, .class_ 16), (0, .nameAndType 17 18), (0, u "com/example/bonn/bonn/ValueGroups"), (0, u "root"), (0, u "(I[I)I"), (0, .methodref 8 20), (0, .nameAndType 21 22), (0, u "expected"), (0, u "([IIIIII)I"), (0, .methodref 8 24), (0, .nameAndType 25 26), (0, u "up4"), (0, u "([II)I"), (2, u "law"), (0, u "(II)Z")] 5

def k1m0 : Method := { name := "<init>", desc := "()V", sig := { parameters := [], returnType := none }, accessFlags := 1, code := none }
def k1c1 : Code := { maxStack := 7, maxLocals := 10, code := code, exceptionTable := #[], attributes := #[] }
def k1m1 : Method := { name := "law", desc := "(II)Z", sig := { parameters := [.int, .int], returnType := some .boolean }, accessFlags := 9, code := some k1c1 }
def k1c2 : Code := { maxStack := 2, maxLocals := 7, code := method_3_code, exceptionTable := #[], attributes := #[] }
def k1m2 : Method := { name := "expected", desc := "([IIIIII)I", sig := { parameters := [(.array .int), .int, .int, .int, .int, .int], returnType := some .int }, accessFlags := 10, code := some k1c2 }
def k1c3 : Code := { maxStack := 5, maxLocals := 2, code := method_4_code, exceptionTable := #[], attributes := #[] }
def k1m3 : Method := { name := "up4", desc := "([II)I", sig := { parameters := [(.array .int), .int], returnType := some .int }, accessFlags := 10, code := some k1c3 }
def k1c4 : Code := { maxStack := 4, maxLocals := 2, code := method_5_code, exceptionTable := #[], attributes := #[] }
def k1m4 : Method := { name := "onCycle", desc := "([II)Z", sig := { parameters := [(.array .int), .int], returnType := some .boolean }, accessFlags := 10, code := some k1c4 }
/-- com/example/bonn/bonn/ValueGroupsRootPinLaw -/
def k1 : Class := { plain "com/example/bonn/bonn/ValueGroupsRootPinLaw" (some 0) with
  accessFlags := 49
  interfaces := #[]
  cf := some (fileOf pool1 8 #[] #[{ accessFlags := 1, nameIndex := 5, descriptorIndex := 6, attributes := #[] }, { accessFlags := 9, nameIndex := 29, descriptorIndex := 30, attributes := #[] }, { accessFlags := 10, nameIndex := 21, descriptorIndex := 22, attributes := #[] }, { accessFlags := 10, nameIndex := 25, descriptorIndex := 26, attributes := #[] }, { accessFlags := 10, nameIndex := 11, descriptorIndex := 12, attributes := #[] }] 49 2 #[] #[])
  fields := #[]
  methods := #[k1m0, k1m1, k1m2, k1m3, k1m4]
  instanceTypes := #[]
  staticTypes := #[]
  resolved := Array.replicate 36 none
  statics := none }

def pool2 : Array CpInfo := pool [(4, .class_ 6), (1, u "java/lang/Object"), (15, .class_ 24), (1, u "com/example/bonn/bonn/ValueGroups"), (0, u "variableCount"), (0, u "I"), (2, u "firstColumn"), (0, u "[I"), (2, u "groupOf"), (2, u "domains"), (0, u "[Lcom/example/bonn/bonn/Domain;"), (2, u "strings"), (0, u "[Z"), (2, u "stored"), (3, u "printRanks"), (0, u "[[I"), (168, u "root"), (0, u "(I[I)I"), (127, u "LAST"), (0, u "J")] 82

def k2c0 : Code := { maxStack := 3, maxLocals := 5, code := prog_112_method_7_code, exceptionTable := #[], attributes := #[] }
def k2m0 : Method := { name := "root", desc := "(I[I)I", sig := { parameters := [.int, (.array .int)], returnType := some .int }, accessFlags := 8, code := some k2c0 }
/-- com/example/bonn/bonn/ValueGroups -/
def k2 : Class := { plain "com/example/bonn/bonn/ValueGroups" (some 0) with
  accessFlags := 48
  interfaces := #[]
  cf := some (fileOf pool2 22 #[] #[{ accessFlags := 8, nameIndex := 218, descriptorIndex := 219, attributes := #[] }] 48 4 #[] #[{ accessFlags := 26, nameIndex := 347, descriptorIndex := 348, attributes := #[] }, { accessFlags := 18, nameIndex := 25, descriptorIndex := 26, attributes := #[] }, { accessFlags := 18, nameIndex := 29, descriptorIndex := 30, attributes := #[] }, { accessFlags := 18, nameIndex := 33, descriptorIndex := 30, attributes := #[] }, { accessFlags := 18, nameIndex := 36, descriptorIndex := 37, attributes := #[] }, { accessFlags := 18, nameIndex := 40, descriptorIndex := 41, attributes := #[] }, { accessFlags := 18, nameIndex := 44, descriptorIndex := 41, attributes := #[] }, { accessFlags := 18, nameIndex := 48, descriptorIndex := 49, attributes := #[] }])
  fields := #[{ name := "LAST", type := .long, accessFlags := 26, slot := 0, constantValue := 0 }, { name := "variableCount", type := .int, accessFlags := 18, slot := 0, constantValue := 0 }, { name := "firstColumn", type := (.array .int), accessFlags := 18, slot := 1, constantValue := 0 }, { name := "groupOf", type := (.array .int), accessFlags := 18, slot := 2, constantValue := 0 }, { name := "domains", type := (.array (.object "com/example/bonn/bonn/Domain")), accessFlags := 18, slot := 3, constantValue := 0 }, { name := "strings", type := (.array .boolean), accessFlags := 18, slot := 4, constantValue := 0 }, { name := "stored", type := (.array .boolean), accessFlags := 18, slot := 5, constantValue := 0 }, { name := "printRanks", type := (.array (.array .int)), accessFlags := 18, slot := 6, constantValue := 0 }]
  methods := #[k2m0]
  instanceTypes := #[.int, (.array .int), (.array .int), (.array (.object "com/example/bonn/bonn/Domain")), (.array .boolean), (.array .boolean), (.array (.array .int))]
  staticTypes := #[.long]
  resolved := Array.replicate 431 none
  statics := none }

def pool3 : Array CpInfo := pool [(1, u "java/lang/Cloneable"), (0, .class_ 1), (0, u "java/lang/Object"), (0, .class_ 3)] 3

/-- java/lang/Cloneable -/
def k3 : Class := { plain "java/lang/Cloneable" (some 0) with
  accessFlags := 1537
  interfaces := #[]
  cf := some (fileOf pool3 2 #[] #[] 1537 4 #[] #[])
  fields := #[]
  methods := #[]
  instanceTypes := #[]
  staticTypes := #[]
  resolved := Array.replicate 8 none
  statics := none }

def pool4 : Array CpInfo := pool [(1, u "java/io/Serializable"), (0, .class_ 1), (0, u "java/lang/Object"), (0, .class_ 3)] 3

/-- java/io/Serializable -/
def k4 : Class := { plain "java/io/Serializable" (some 0) with
  accessFlags := 1537
  interfaces := #[]
  cf := some (fileOf pool4 2 #[] #[] 1537 4 #[] #[])
  fields := #[]
  methods := #[]
  instanceTypes := #[]
  staticTypes := #[]
  resolved := Array.replicate 8 none
  statics := none }

/-- the primitive byte -/
def k5 : Class := { plain "byte" none with kind := .primitive 'B', accessFlags := 0x411 }
/-- [B -/
def k6 : Class := { plain "[B" (some 0) with kind := .array 5 .byte, interfaces := #[3, 4], accessFlags := 1041 }

/-- the primitive int -/
def k7 : Class := { plain "int" none with kind := .primitive 'I', accessFlags := 0x411 }
/-- [I -/
def k8 : Class := { plain "[I" (some 0) with kind := .array 7 .int, interfaces := #[3, 4], accessFlags := 1041 }

def heap : Heap := #[]
def classes : Array Class := #[k0, k1, k2, k3, k4, k5, k6, k7, k8]
def interned : List (Array UInt16 × Addr) := []
def slotsUsed : Nat := 0
def theMethod : MethodId := ⟨1, 1⟩
def args0 : Array Value := #[.int 5, .int 6]
def aboutOver (below : List Frame) : State where
  vm := { classes := classes, interned := interned.toArray }
  heap := heap
  slotsUsed := slotsUsed
  threads := #[{ frames := .invoking theMethod args0 :: below }]
def below0 : List Frame := [.native { method := ⟨0, 0⟩, args := #[] }]
def about1 : State := aboutOver below0
def p0 : Program := .bare "" "" ""
def e0 : Env := launch0.env 0 0 0
theorem w_frames : about1.frames = Frame.invoking theMethod args0 :: below0 := rfl
set_option maxRecDepth 65536 in
theorem w_args : argsFit about1.vm theMethod args0 = true := by decide +kernel
set_option maxRecDepth 65536 in
theorem w_heap : heapFits about1 = true := by decide +kernel
set_option maxRecDepth 65536 in
theorem w_runnable : about1.curStatus? = some .runnable := by decide +kernel
set_option maxRecDepth 65536 in
theorem w_alone : about1.alone = true := by decide +kernel
set_option maxRecDepth 65536 in
theorem w_named : about1.methodNamed? x = some theMethod := by decide +kernel
set_option maxRecDepth 65536 in
theorem w_hears : about1.hears theMethod below0 = true := by decide +kernel
set_option maxRecDepth 65536 in
theorem w_ripe : about1.ripe theMethod args0 below0 = true := by decide +kernel
theorem w_running : about1.status = .running := rfl
set_option maxRecDepth 65536 in
theorem w_room : about1.hasRoom e0.platform room_1 = true :=
  launch0.hasRoom_least _ room_1 (by decide +kernel) (by decide +kernel) (by decide +kernel) (by decide +kernel) (by decide +kernel) (by decide +kernel)
theorem allAtoms_all (ts : List Jvm.Cond) (a : Array Jvm.Value) (st : Jvm.State) : (allAtoms ts).before a st = ts.all (fun c => c.before a st) := by
  induction ts with
  | nil => rfl
  | cons c t ih =>
    show (Jvm.Cond.and c (allAtoms t)).before a st = _
    rw [Jvm.Cond.before_and, ih, List.all_cons]
def words1 : List Jvm.Cond := Jvm.Cond.code x code maxLocals ret :: tables_1
/-- a 'code' word, met by the world's own term for the bytes: nothing is compared byte by byte -/
theorem code_word {y : MethodName} {bytes : ByteArray} {mx : Nat} {rt : Option FieldType} {a : Array Value} {s : State} {m : MethodId} {meth : Method} {c : Code} (h1 : s.methodNamed? y = some m) (h2 : s.vm.method? m = some meth) (h3 : meth.code = some c) (h4 : c.code = bytes)
    (h5 : (c.maxLocals == mx && c.exceptionTable.isEmpty && decide (c.maxStack ≤ mostOperands) && decide (meth.sig.returnType = rt) && !meth.locks && decide (parseMethodDescriptor y.desc = some meth.sig)) = true) : (Jvm.Cond.code y bytes mx rt).before a s = true := by
  simp only [Bool.and_eq_true, beq_iff_eq, Bool.not_eq_true', decide_eq_true_eq] at h5
  obtain ⟨⟨⟨⟨⟨g1, g2⟩, g3⟩, g4⟩, g5⟩, g6⟩ := h5
  simp [Cond.before, Cond.holds, Cond.value, h1, h2, h3, h4, g1, g2, g3, g4, g5, g6]
def isCode : Jvm.Cond → Bool
  | .code _ _ _ _ => true
  | _ => false
theorem all_split {L : List Jvm.Cond} {P : Jvm.Cond → Bool} (h1 : L.all (fun c => isCode c || P c) = true) (h2 : ∀ c ∈ L.filter isCode, P c = true) : L.all P = true := by
  refine List.all_eq_true.mpr fun c hc => ?_
  have h := List.all_eq_true.mp h1 c hc
  rcases Bool.eq_false_or_eq_true (isCode c) with hi | hi
  · exact h2 c (List.mem_filter.mpr ⟨hc, hi⟩)
  · simpa [hi] using h
set_option maxRecDepth 65536 in
theorem w_c0 : (Jvm.Cond.code x code maxLocals ret).before args0 about1 = true := code_word (m := ⟨1, 1⟩) (meth := k1m1) (c := k1c1) (by decide +kernel) rfl rfl rfl (by decide +kernel)
set_option maxRecDepth 65536 in
theorem w_c1 : (Jvm.Cond.code ({ cls := "com/example/bonn/bonn/ValueGroupsRootPinLaw", name := "onCycle", desc := "([II)Z" } : Jvm.MethodName) method_5_code (2 : Nat) (Option.some Jvm.ClassFile.FieldType.boolean)).before args0 about1 = true := code_word (m := ⟨1, 4⟩) (meth := k1m4) (c := k1c4) (by decide +kernel) rfl rfl rfl (by decide +kernel)
set_option maxRecDepth 65536 in
theorem w_c2 : (Jvm.Cond.code ({ cls := "com/example/bonn/bonn/ValueGroupsRootPinLaw", name := "up4", desc := "([II)I" } : Jvm.MethodName) method_4_code (2 : Nat) (Option.some Jvm.ClassFile.FieldType.int)).before args0 about1 = true := code_word (m := ⟨1, 3⟩) (meth := k1m3) (c := k1c3) (by decide +kernel) rfl rfl rfl (by decide +kernel)
set_option maxRecDepth 65536 in
theorem w_c3 : (Jvm.Cond.code ({ cls := "com/example/bonn/bonn/ValueGroups", name := "root", desc := "(I[I)I" } : Jvm.MethodName) prog_112_method_7_code (5 : Nat) (Option.some Jvm.ClassFile.FieldType.int)).before args0 about1 = true := code_word (m := ⟨2, 0⟩) (meth := k2m0) (c := k2c0) (by decide +kernel) rfl rfl rfl (by decide +kernel)
set_option maxRecDepth 65536 in
theorem w_c4 : (Jvm.Cond.code ({ cls := "com/example/bonn/bonn/ValueGroupsRootPinLaw", name := "expected", desc := "([IIIIII)I" } : Jvm.MethodName) method_3_code (7 : Nat) (Option.some Jvm.ClassFile.FieldType.int)).before args0 about1 = true := code_word (m := ⟨1, 2⟩) (meth := k1m2) (c := k1c2) (by decide +kernel) rfl rfl rfl (by decide +kernel)
def codes1 : List Jvm.Cond := [Jvm.Cond.code x code maxLocals ret, Jvm.Cond.code ({ cls := "com/example/bonn/bonn/ValueGroupsRootPinLaw", name := "onCycle", desc := "([II)Z" } : Jvm.MethodName) method_5_code (2 : Nat) (Option.some Jvm.ClassFile.FieldType.boolean), Jvm.Cond.code ({ cls := "com/example/bonn/bonn/ValueGroupsRootPinLaw", name := "up4", desc := "([II)I" } : Jvm.MethodName) method_4_code (2 : Nat) (Option.some Jvm.ClassFile.FieldType.int), Jvm.Cond.code ({ cls := "com/example/bonn/bonn/ValueGroups", name := "root", desc := "(I[I)I" } : Jvm.MethodName) prog_112_method_7_code (5 : Nat) (Option.some Jvm.ClassFile.FieldType.int), Jvm.Cond.code ({ cls := "com/example/bonn/bonn/ValueGroupsRootPinLaw", name := "expected", desc := "([IIIIII)I" } : Jvm.MethodName) method_3_code (7 : Nat) (Option.some Jvm.ClassFile.FieldType.int)]
set_option maxRecDepth 65536 in
theorem codes_eq : words1.filter isCode = codes1 := rfl
theorem w_codes : ∀ c ∈ words1.filter isCode, c.before args0 about1 = true := by
  rw [codes_eq]
  intro c hc
  simp only [codes1, List.mem_cons, List.not_mem_nil, or_false] at hc
  rcases hc with rfl | rfl | rfl | rfl | rfl
  · exact w_c0
  · exact w_c1
  · exact w_c2
  · exact w_c3
  · exact w_c4
set_option maxRecDepth 65536 in
theorem w_t1 : words1.all (fun c => isCode c || c.before args0 about1) = true := by decide +kernel
theorem w_tables : (allAtoms (Jvm.Cond.code x code maxLocals ret :: tables_1)).before args0 about1 = true := by
  rw [allAtoms_all]
  show words1.all (fun c => c.before args0 about1) = true
  refine all_split ?_ w_codes
  rw [w_t1]
set_option maxRecDepth 65536 in
theorem w_case : (Jvm.Cond.and given_1 narrow_1).before args0 about1 = true := by decide +kernel
theorem w_applies : (headSpec (Jvm.Cond.code x code maxLocals ret :: tables_1) room_1).applies x e0.platform about1 = true :=
  (Spec.applies_iff w_frames).mpr ⟨w_running, w_runnable, w_alone, w_named, w_hears, w_ripe, w_room, w_tables⟩
theorem atStart : AtStart classFile x code maxLocals ret World_1 tables_1 room_1 Calls_1 rest_1 Pre_1 launch0 p0 e0 about1 theMethod args0 below0 :=
  ⟨lists_1, trivial, launch0.admits_env _ _ _, launch0.least_env, fairChoices_fair.cas, fairChoices_fair.clock, w_frames, w_args, w_heap, w_applies, trivial, trivial, w_case⟩
end start1
theorem witness_1 : WitnessClaimed_1 := ⟨start1.p0, start1.e0, start1.about1, start1.theMethod, start1.args0, start1.below0, start1.atStart⟩
end Jvm.Pilot.@@N@@
