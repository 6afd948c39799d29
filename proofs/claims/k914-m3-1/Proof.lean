import JvmDerived
import JvmDerived.Pilot.@@N@@Statement
import JvmDerived.Pilot.@@N@@Code
set_option linter.unusedVariables false
set_option linter.unusedSimpArgs false
namespace Jvm.RoadKit
open Sem ClassFile Op Lib Jvm.Stand Jvm.Free Jvm.LawKit
section New
variable {p : Program} {l : Launch} {e : Env} {R : Room} {s : State} {m : MethodId} {args : Array Value} {below : List Frame} {meth : Method} {c : Code} {T : State} {locs : List Loc} {cells slots : Nat}
theorem retI (X : Stand p l e R s m args below meth c T locs cells slots) (hx : p.tables.exec = Jvm.exec) {pc : Nat} {Ls : Array Slot} {z : Int32} {rest : List Value} (hret : meth.sig.returnType = some .int) (hd : decode c.code pc = .ok (.ireturn, 1)) {fs : List Frame}
    (hl : ∀ (f : JFrame) (acts : List Action), f.method = m → f.locked = none → f.entered = [] → (doReturn e (T.setTop f) acts (some (.int z))).1 = T.setFrames fs) : Steps p.tables e below (T.setTop (mkF m pc Ls (.int z :: rest))) (T.setFrames fs) := by
  have hm' : T.vm.method? m = some meth := X.method'
  have hn : narrow .int (.int z) = .int z := rfl
  show Steps p.tables e below (T.setTop { method := m, pc := pc, locals := Ls, stack := _ :: rest, locked := none }) _
  jvm_step X.here [X.here.top, hx, hd, hm', hret, hn]
  first | (intro acts; rw [hl _ acts rfl rfl rfl]) | rw [hl _ _ rfl rfl rfl]
  exact Steps.refl _
end New
end Jvm.RoadKit
namespace Jvm.Pilot.@@N@@
open Jvm Jvm.ClassFile Sem Op Lib Jvm.Free Jvm.Stand Jvm.LawKit Jvm.RoadKit Bundle Jvm.Pilot.@@N@@.Jvm.D
def f2 (q1 : Int64) (q2 : Int64) : Int64 := (if q2 < q1 then q2 else q1)
def f1 (p1 : Int32) (p2 : Int32) : Int32 := (f2 (p1.toInt64 * p2.toInt64) (100001 : Int64)).toInt32
def f0_0 (p1 : Int32) (p2 : Int32) (p3 : Int32) : Int32 := (XT.ushr (p1 &&& (2147483647 : Int32)) (p3 &&& (31 : Int32)))
def f0_1 (p1 : Int32) (p2 : Int32) (p3 : Int32) : Int32 := (XT.ushr (p2 &&& (2147483647 : Int32)) ((XT.ushr p3 (5 : Int32)) &&& (31 : Int32)))
def f0_2 (p1 : Int32) (p2 : Int32) (p3 : Int32) : Int32 := (if ((100001 : Int32) / (f0_1 p1 p2 p3)) < (f0_0 p1 p2 p3) then (100001 : Int32) else ((f0_0 p1 p2 p3) * (f0_1 p1 p2 p3)))
def f0_3 (p1 : Int32) (p2 : Int32) (p3 : Int32) : Int32 := (if (f0_1 p1 p2 p3) = (0 : Int32) then (0 : Int32) else (f0_2 p1 p2 p3))
def f0_4 (p1 : Int32) (p2 : Int32) (p3 : Int32) : Int32 := (if (f1 (f0_0 p1 p2 p3) (f0_1 p1 p2 p3)) = (f0_3 p1 p2 p3) then (1 : Int32) else (0 : Int32))
def f0 (p1 : Int32) (p2 : Int32) (p3 : Int32) : Int32 := ((f0_4 p1 p2 p3) &&& 1)
theorem own_max (z : Int32) : (z &&& (2147483647 : Int32)).toBitVec.toNat < 2147483648 := by
  show (z.toBitVec &&& (2147483647 : Int32).toBitVec).toNat < _
  rw [BitVec.toNat_and, show (2147483647 : Int32).toBitVec.toNat = 2 ^ 31 - 1 from by decide, Nat.and_two_pow_sub_one_eq_mod]
  omega
theorem own_ushr (x y : Int32) (h : x.toBitVec.toNat < 2147483648) : 0 ≤ (XT.ushr x y).toInt := by
  have h1 : (XT.ushr x y).toBitVec.toNat ≤ x.toBitVec.toNat := by
    show (x.toBitVec >>> ((y &&& 31).toBitVec % 32)).toNat ≤ _
    rw [BitVec.ushiftRight_eq', BitVec.toNat_ushiftRight, Nat.shiftRight_eq_div_pow]
    exact Nat.div_le_self _ _
  show 0 ≤ (XT.ushr x y).toBitVec.toInt
  rw [BitVec.toInt_eq_toNat_cond, if_pos (by omega)]
  omega
theorem own_core (s t : Int32) (hs : 0 ≤ s.toInt) (ht : 0 ≤ t.toInt) : f1 s t = (if t = (0 : Int32) then (0 : Int32) else (if ((100001 : Int32) / t) < s then (100001 : Int32) else (s * t))) := by
  have s1 := s.toInt_lt
  have t1 := t.toInt_lt
  have hm : 0 ≤ s.toInt * t.toInt := Int.mul_nonneg hs ht
  have hM : s.toInt * t.toInt ≤ 2147483647 * 2147483647 := Int.mul_le_mul (by omega) (by omega) ht (by omega)
  have e1 : (s.toInt64 * t.toInt64).toInt = s.toInt * t.toInt := by
    rw [Int64.toInt_mul, Int32.toInt_toInt64, Int32.toInt_toInt64, Int.bmod_def]
    generalize s.toInt * t.toInt = z at *
    omega
  have e2 : (100001 : Int64).toInt = 100001 := by decide
  have e3 : (100001 : Int32).toInt = 100001 := by decide
  have e0 : (0 : Int32).toInt = 0 := by decide
  rw [f1, f2]
  by_cases c0 : t = (0 : Int32)
  · subst c0
    rw [if_pos rfl, if_neg (by rw [Int64.lt_iff_toInt_lt, e1, e2, e0]; omega), ← Int32.toInt_inj, Int64.toInt_toInt32, e1, e0, Int.mul_zero]
    decide
  · rw [if_neg c0]
    have tp : 0 < t.toInt := by
      have : t.toInt ≠ 0 := fun h => c0 (Int32.toInt_inj.mp (by rw [h, e0]))
      omega
    have n1 : t ≠ -1 := by rintro rfl; exact absurd tp (by decide)
    have d : ((100001 : Int32) / t).toInt = 100001 / t.toInt := by
      rw [Int32.toInt_div_of_ne_right _ _ n1, e3, Int.tdiv_eq_ediv_of_nonneg (by decide)]
    have key : 100001 / t.toInt < s.toInt ↔ 100001 < s.toInt * t.toInt := by
      rw [Int.ediv_lt_iff_lt_mul tp]
    by_cases c : 100001 < s.toInt * t.toInt
    · rw [if_pos (by rw [Int64.lt_iff_toInt_lt, e1, e2]; exact c), if_pos (by rw [Int32.lt_iff_toInt_lt, d]; exact key.mpr c)]
      decide
    · rw [if_neg (by rw [Int64.lt_iff_toInt_lt, e1, e2]; exact c), if_neg (by rw [Int32.lt_iff_toInt_lt, d]; exact fun h => c (key.mp h)), ← Int32.toInt_inj, Int64.toInt_toInt32, e1, Int32.toInt_mul]
theorem own_law (p1 p2 p3 : Int32) : f0 p1 p2 p3 = 1 := by
  rw [f0, f0_4, f0_3, f0_2]
  have h := own_core (f0_0 p1 p2 p3) (f0_1 p1 p2 p3) (own_ushr _ _ (own_max _)) (own_ushr _ _ (own_max _))
  rw [if_pos h]; rfl

abbrev own_G (tb : Tables) (e : Env) (below : List Frame) (Q : Outcome → State → Prop) (A : State) : Prop := ∃ s₂ o, Steps tb e below A s₂ ∧ s₂.status = .running ∧ Ended s₂ below o ∧ Q o s₂
theorem own_step {tb : Tables} {e : Env} {below : List Frame} {Q : Outcome → State → Prop} {A B : State} (h : ∀ t, Steps tb e below B t → Steps tb e below A t) (g : own_G tb e below Q B) : own_G tb e below Q A := by
  obtain ⟨s2, o, h1, h2⟩ := g
  exact ⟨s2, o, h _ h1, h2⟩
theorem own_aT {x y : Addr} (h : x = y) : XT.acmp .eq (.ref x) (.ref y) = true ∧ XT.acmp .ne (.ref x) (.ref y) = false := by subst h; exact ⟨by simp [XT.acmp], by simp [XT.acmp]⟩
theorem own_aF {x y : Addr} (h : ¬ x = y) : XT.acmp .eq (.ref x) (.ref y) = false ∧ XT.acmp .ne (.ref x) (.ref y) = true := by simp [XT.acmp, h]
theorem own_cl (x y : Int64) : XT.cmpL x y < 0 ↔ x < y := lw_lt x y
theorem own_cg (x y : Int64) : 0 < XT.cmpL x y ↔ y < x := lw_gt x y
theorem own_ce (x y : Int64) : XT.cmpL x y = 0 ↔ x = y := lw_eq x y
theorem pd_0 : parseMethodDescriptor "(JJ)J" = some ⟨[.long, .long], some .long⟩ := by decide +kernel
theorem pd_1 : parseMethodDescriptor "(II)I" = some ⟨[.int, .int], some .int⟩ := by decide +kernel
theorem d2_0 : decode jdk_29_method_70_code 0 = .ok (.lload_n 0, 1) := by decide +kernel
theorem d2_1 : decode jdk_29_method_70_code 1 = .ok (.lload_n 2, 1) := by decide +kernel
theorem d2_2 : decode jdk_29_method_70_code 2 = .ok (.lcmp, 1) := by decide +kernel
theorem d2_3 : decode jdk_29_method_70_code 3 = .ok (.ifCond .gt 7, 3) := by decide +kernel
theorem d2_6 : decode jdk_29_method_70_code 6 = .ok (.lload_n 0, 1) := by decide +kernel
theorem d2_7 : decode jdk_29_method_70_code 7 = .ok (.goto 4, 3) := by decide +kernel
theorem d2_10 : decode jdk_29_method_70_code 10 = .ok (.lload_n 2, 1) := by decide +kernel
theorem d2_11 : decode jdk_29_method_70_code 11 = .ok (.lreturn, 1) := by decide +kernel
theorem ef_2 (m : MethodId) (q1 : Int64) (q2 : Int64) : entryFrame m #[(.long q1), (.long q2)] 4 = mkF m 0 #[.val (.long q1), .second, .val (.long q2), .second] [] := by first | (simp [entryFrame, mkF, argsToLocals, Value.category]; done) | rfl
def Q2 (Z : State) (q1 : Int64) (q2 : Int64) (h0 : Heap) (n0 : Nat) (v : Option Value) (h : Heap) (L : List Loc) : Prop := v = some (.long (f2 q1 q2)) ∧ Fr n0 L ∧ h = h0
set_option maxRecDepth 65536 in
set_option maxHeartbeats 40000000 in
theorem rm2 (l : Launch) (Z : State) (a0 : Array Value) (hw : ∀ d ∈ tables_1, d.before a0 Z = true) (ws : List Jvm.Cond) (q1 : Int64) (q2 : Int64) (h0 : Heap) (n0 : Nat) (Z0 : n0 ≤ h0.size) :
    MetFree l (⟨"java/lang/Math", "min", "(JJ)J"⟩ : MethodName) (head1 (Jvm.Cond.code (⟨"java/lang/Math", "min", "(JJ)J"⟩ : MethodName) jdk_29_method_70_code 4 (some .long) :: ws) ({ frames := 0, cells := 0, slots := 0, locals := 0 } : Room)) (fun a U => a = #[(.long q1), (.long q2)] ∧ Z.Warmed39 U.vm ∧ U.heap = h0) (fun _ _ _ _ _ => True) (fun _ U o U' => ∃ v L, o = .returned v ∧ Q2 Z q1 q2 h0 n0 v U'.heap L ∧ FrameEnd U o U' L ({ frames := 0, cells := 0, slots := 0, locals := 0 } : Room).cells ({ frames := 0, cells := 0, slots := 0, locals := 0 } : Room).slots) := by
  refine MetFree.of_bodySF (by decide +kernel) hisR ?_
  intro p e s m args below meth c s₁ Bd hml0 hP hK
  obtain ⟨rfl, hZ, hh⟩ := hP
  have hx := Bd.exec
  have hby := Bd.bytes
  have hml : c.maxLocals = 4 := hml0
  have hown : s.vm.findClass "java/lang/Math" = some m.cls := findClass_of_methodNamed Bd.named
  have hnm := (name_of_methodNamed Bd.named Bd.method).1
  have X0 : Stand p l e ({ frames := 0, cells := 0, slots := 0, locals := 0 } : Room) s m #[(.long q1), (.long q2)] below meth c s₁ [] 0 0 := Stand.of_body Bd
  have e0 : s₁.heap = h0 := by rw [← hh, Bd.state]; rfl
  have N0 := Fr.nil n0
  have pre0 : ∀ t, Steps p.tables e below (s₁.setTop (mkF m 0 #[.val (.long q1), .second, .val (.long q2), .second] [])) t → Steps p.tables e below (s₁.setTop (entryFrame m #[(.long q1), (.long q2)] 4)) t := fun t k => castTop (ef_2 m q1 q2) k
  refine own_step (Q := fun o U' => ∃ v L, o = .returned v ∧ Q2 Z q1 q2 h0 n0 v U'.heap L ∧ FrameEnd s o U' L ({ frames := 0, cells := 0, slots := 0, locals := 0 } : Room).cells ({ frames := 0, cells := 0, slots := 0, locals := 0 } : Room).slots) pre0 ?_
  have st2 : ∀ t, Steps p.tables e below (s₁.setTop (mkF m 11 #[.val (.long q1), .second, .val (.long q2), .second] [(.long (if q2 < q1 then q2 else q1))])) t → Steps p.tables e below (s₁.setTop (mkF m 3 #[.val (.long q1), .second, .val (.long q2), .second] [(.int (XT.cmpL q1 q2))])) t := by
    intro t k
    by_cases h1 : q2 < q1
    · rw [show (if q2 < q1 then q2 else q1) = q2 from if_pos h1] at k
      show Steps p.tables e below (s₁.setTop (mkF m 3 #[.val (.long q1), .second, .val (.long q2), .second] [(.int (XT.cmpL q1 q2))])) _
      refine XS.ifYes X0.here hx rfl (pc0 := 3) (pc' := 10) rfl (hb hby d2_3) rfl ((if0 _ _).trans (tlt ((own_cg _ _).mpr h1)).2.2.1) (by decide) (by decide) ?_
      show Steps p.tables e below (s₁.setTop (mkF m 10 #[.val (.long q1), .second, .val (.long q2), .second] [])) _
      refine XT.lloadN X0.here hx rfl (hb hby d2_10) rfl ?_
      exact k
    · rw [show (if q2 < q1 then q2 else q1) = q1 from if_neg h1] at k
      show Steps p.tables e below (s₁.setTop (mkF m 3 #[.val (.long q1), .second, .val (.long q2), .second] [(.int (XT.cmpL q1 q2))])) _
      refine XS.ifNo X0.here hx rfl (hb hby d2_3) rfl ((if0 _ _).trans (flt (mt (own_cg _ _).mp h1)).2.2.1) ?_
      show Steps p.tables e below (s₁.setTop (mkF m 6 #[.val (.long q1), .second, .val (.long q2), .second] [])) _
      refine XT.lloadN X0.here hx rfl (hb hby d2_6) rfl ?_
      show Steps p.tables e below (s₁.setTop (mkF m 7 #[.val (.long q1), .second, .val (.long q2), .second] [(.long q1)])) _
      refine XS.goto X0.here hx rfl (pc0 := 7) (pc' := 11) rfl (hb hby d2_7) (by decide) (by decide) ?_
      exact k
  obtain ⟨fs, hr, hrun, hended, hW, hsame⟩ := X0.leave (v := some (.long (if q2 < q1 then q2 else q1))) (fun h => by rw [Bd.returns] at h; cases h)
  refine ⟨_, _, ?_, hrun, hended, _, _, rfl, ?_, ⟨_, rfl⟩, hW, hsame.mono (by decide) (by decide)⟩
  · show Steps p.tables e below (s₁.setTop (mkF m 0 #[.val (.long q1), .second, .val (.long q2), .second] [])) _
    refine XT.lloadN X0.here hx rfl (hb hby d2_0) rfl ?_
    show Steps p.tables e below (s₁.setTop (mkF m 1 #[.val (.long q1), .second, .val (.long q2), .second] [(.long q1)])) _
    refine XT.lloadN X0.here hx rfl (hb hby d2_1) rfl ?_
    show Steps p.tables e below (s₁.setTop (mkF m 2 #[.val (.long q1), .second, .val (.long q2), .second] [(.long q2), (.long q1)])) _
    refine XT.lcmp X0.here hx rfl (hb hby d2_2) rfl ?_
    show Steps p.tables e below (s₁.setTop (mkF m 3 #[.val (.long q1), .second, .val (.long q2), .second] [(.int (XT.cmpL q1 q2))])) _
    refine st2 _ ?_
    show Steps p.tables e below (s₁.setTop (mkF m 11 #[.val (.long q1), .second, .val (.long q2), .second] [(.long (if q2 < q1 then q2 else q1))])) _
    jvm_step X0.here [X0.here.top, hx, (hb hby d2_11), X0.method', Bd.returns, narrow]
    first | (intro acts; rw [hr _ acts rfl rfl rfl]) | rw [hr _ _ rfl rfl rfl]
    exact Steps.refl _
  · show Q2 Z q1 q2 h0 n0 _ s₁.heap _
    rw [e0]
    have hf : f2 q1 q2 = (if q2 < q1 then q2 else q1) := rfl
    exact ⟨by rw [hf], N0, rfl⟩
theorem d1_0 : decode prog_62_method_4_code 0 = .ok (.iload_n 0, 1) := by decide +kernel
theorem d1_1 : decode prog_62_method_4_code 1 = .ok (.i2l, 1) := by decide +kernel
theorem d1_2 : decode prog_62_method_4_code 2 = .ok (.iload_n 1, 1) := by decide +kernel
theorem d1_3 : decode prog_62_method_4_code 3 = .ok (.i2l, 1) := by decide +kernel
theorem d1_4 : decode prog_62_method_4_code 4 = .ok (.lmul, 1) := by decide +kernel
theorem d1_5 : decode prog_62_method_4_code 5 = .ok (.ldc2_w 73, 3) := by decide +kernel
theorem d1_8 : decode prog_62_method_4_code 8 = .ok (.invokestatic 75, 3) := by decide +kernel
theorem d1_11 : decode prog_62_method_4_code 11 = .ok (.l2i, 1) := by decide +kernel
theorem d1_12 : decode prog_62_method_4_code 12 = .ok (.ireturn, 1) := by decide +kernel
theorem pn_1 : plainName "com/example/verdikt/verdikt/model/RegexParser" = true := by first | (simp [plainName, overriddenIn]; done) | decide +kernel
theorem ef_1 (m : MethodId) (p1 : Int32) (p2 : Int32) : entryFrame m #[(.int p1), (.int p2)] 2 = mkF m 0 #[.val (.int p1), .val (.int p2)] [] := by first | (simp [entryFrame, mkF, argsToLocals, Value.category]; done) | rfl
def Q1 (Z : State) (p1 : Int32) (p2 : Int32) (h0 : Heap) (n0 : Nat) (v : Option Value) (h : Heap) (L : List Loc) : Prop := v = some (.int (f1 p1 p2)) ∧ Fr n0 L ∧ h = h0
set_option maxRecDepth 65536 in
set_option maxHeartbeats 40000000 in
theorem rm1 (l : Launch) (Z : State) (a0 : Array Value) (hw : ∀ d ∈ tables_1, d.before a0 Z = true) (ws : List Jvm.Cond) (p1 : Int32) (p2 : Int32) (h0 : Heap) (n0 : Nat) (Z0 : n0 ≤ h0.size) :
    MetFree l (⟨"com/example/verdikt/verdikt/model/RegexParser", "timesSteps", "(II)I"⟩ : MethodName) (head1 (Jvm.Cond.code (⟨"com/example/verdikt/verdikt/model/RegexParser", "timesSteps", "(II)I"⟩ : MethodName) prog_62_method_4_code 2 (some .int) :: ws) ({ frames := 1, cells := 0, slots := 0, locals := 15 } : Room)) (fun a U => a = #[(.int p1), (.int p2)] ∧ Z.Warmed39 U.vm ∧ U.heap = h0) (fun _ _ _ _ _ => True) (fun _ U o U' => ∃ v L, o = .returned v ∧ Q1 Z p1 p2 h0 n0 v U'.heap L ∧ FrameEnd U o U' L ({ frames := 1, cells := 0, slots := 0, locals := 15 } : Room).cells ({ frames := 1, cells := 0, slots := 0, locals := 15 } : Room).slots) := by
  refine MetFree.of_bodySF (plainFor_of_name pn_1) hisR ?_
  intro p e s m args below meth c s₁ Bd hml0 hP hK
  obtain ⟨rfl, hZ, hh⟩ := hP
  have hx := Bd.exec
  have hby := Bd.bytes
  have hml : c.maxLocals = 2 := hml0
  have hown : s.vm.findClass "com/example/verdikt/verdikt/model/RegexParser" = some m.cls := findClass_of_methodNamed Bd.named
  have hnm := (name_of_methodNamed Bd.named Bd.method).1
  have X0 : Stand p l e ({ frames := 1, cells := 0, slots := 0, locals := 15 } : Room) s m #[(.int p1), (.int p2)] below meth c s₁ [] 0 0 := Stand.of_body Bd
  have e0 : s₁.heap = h0 := by rw [← hh, Bd.state]; rfl
  have N0 := Fr.nil n0
  have pre0 : ∀ t, Steps p.tables e below (s₁.setTop (mkF m 0 #[.val (.int p1), .val (.int p2)] [])) t → Steps p.tables e below (s₁.setTop (entryFrame m #[(.int p1), (.int p2)] 2)) t := fun t k => castTop (ef_1 m p1 p2) k
  refine own_step (Q := fun o U' => ∃ v L, o = .returned v ∧ Q1 Z p1 p2 h0 n0 v U'.heap L ∧ FrameEnd s o U' L ({ frames := 1, cells := 0, slots := 0, locals := 15 } : Room).cells ({ frames := 1, cells := 0, slots := 0, locals := 15 } : Room).slots) pre0 ?_
  obtain ⟨_, _, ⟨T1, L1, k1, n1⟩, -, X1, ⟨Lc1, hQ1, l1, y1, z1⟩, st1⟩ := Jvm.LawKit.callS X0 hx (y := (⟨"java/lang/Math", "min", "(JJ)J"⟩ : MethodName)) hown (mvT hZ (hw _ (List.mem_of_getElem? (i := 7) rfl))) (mvT hZ (hw _ (List.mem_of_getElem? (i := 8) rfl))) (mvT hZ (hw _ (List.mem_of_getElem? (i := 9) rfl))) (mvT hZ (hw _ (List.mem_of_getElem? (i := 10) rfl))) (by decide) (backOf (W := 0) (rm2 l Z a0 hw [] (p1.toInt64 * p2.toInt64) (100001 : Int64) h0 n0 Z0) hZ (hw _ (List.mem_of_getElem? (i := 10) rfl)) (hw _ (List.mem_of_getElem? (i := 9) rfl)) (by decide) (by decide)) (g := (mkF m 8 #[.val (.int p1), .val (.int p2)] [(.long (100001 : Int64)), (.long (p1.toInt64 * p2.toInt64))])) rfl (by rw [hml]; rfl) (argsL := [(.long (p1.toInt64 * p2.toInt64)), (.long (100001 : Int64))]) (rest := []) (lenOf pd_0 rfl) rfl (by show 2 * 0 + _ ≤ _; exact Nat.le_of_eq rfl) (hb hby d1_8) (fun _ _ => ⟨rfl, e0, (by decide : 0 + 0 ≤ _), (by decide : 0 + 0 ≤ _)⟩)
  dsimp only [Pt.U, Pt.locs, Pt.cells, Pt.slots] at X1 l1 y1 z1 st1 hQ1
  subst l1 y1 z1
  obtain ⟨rfl, N1q, e1⟩ := hQ1
  have N1 := Fr.app N0 N1q
  obtain ⟨fs, hr, hrun, hended, hW, hsame⟩ := X1.leave (v := some (.int (f2 (p1.toInt64 * p2.toInt64) (100001 : Int64)).toInt32)) (fun h => by rw [Bd.returns] at h; cases h)
  refine ⟨_, _, ?_, hrun, hended, _, _, rfl, ?_, ⟨_, rfl⟩, hW, hsame.mono (by decide) (by decide)⟩
  · show Steps p.tables e below (s₁.setTop (mkF m 0 #[.val (.int p1), .val (.int p2)] [])) _
    refine XS.iloadN X0.here hx rfl (hb hby d1_0) rfl ?_
    show Steps p.tables e below (s₁.setTop (mkF m 1 #[.val (.int p1), .val (.int p2)] [(.int p1)])) _
    refine XT.i2l X0.here hx rfl (hb hby d1_1) rfl ?_
    show Steps p.tables e below (s₁.setTop (mkF m 2 #[.val (.int p1), .val (.int p2)] [(.long p1.toInt64)])) _
    refine XS.iloadN X0.here hx rfl (hb hby d1_2) rfl ?_
    show Steps p.tables e below (s₁.setTop (mkF m 3 #[.val (.int p1), .val (.int p2)] [(.int p2), (.long p1.toInt64)])) _
    refine XT.i2l X0.here hx rfl (hb hby d1_3) rfl ?_
    show Steps p.tables e below (s₁.setTop (mkF m 4 #[.val (.int p1), .val (.int p2)] [(.long p2.toInt64), (.long p1.toInt64)])) _
    refine XT.lmul X0.here hx rfl (hb hby d1_4) rfl ?_
    show Steps p.tables e below (s₁.setTop (mkF m 5 #[.val (.int p1), .val (.int p2)] [(.long (p1.toInt64 * p2.toInt64))])) _
    refine X0.ldc2Long hx hown (mvT hZ (hw _ (List.mem_of_getElem? (i := 6) rfl))) (g := (mkF m 5 #[.val (.int p1), .val (.int p2)] [(.long (p1.toInt64 * p2.toInt64))])) rfl (hb hby d1_5) _ ?_
    show Steps p.tables e below (s₁.setTop (mkF m 8 #[.val (.int p1), .val (.int p2)] [(.long (100001 : Int64)), (.long (p1.toInt64 * p2.toInt64))])) _
    refine st1 _ ?_
    show Steps p.tables e below (T1.setTop (mkF m 11 #[.val (.int p1), .val (.int p2)] [(.long (f2 (p1.toInt64 * p2.toInt64) (100001 : Int64)))])) _
    refine XT.l2i X1.here hx rfl (hb hby d1_11) rfl ?_
    show Steps p.tables e below (T1.setTop (mkF m 12 #[.val (.int p1), .val (.int p2)] [(.int (f2 (p1.toInt64 * p2.toInt64) (100001 : Int64)).toInt32)])) _
    exact retI X1 hx Bd.returns (hb hby d1_12) hr
  · show Q1 Z p1 p2 h0 n0 _ T1.heap _
    rw [e1]
    have hf : f1 p1 p2 = (f2 (p1.toInt64 * p2.toInt64) (100001 : Int64)).toInt32 := rfl
    exact ⟨by rw [hf], N1, rfl⟩
theorem pn_0 : plainName "com/example/verdikt/verdikt/model/RegexParserTimesStepsPinLaw" = true := by first | (simp [plainName, overriddenIn]; done) | decide +kernel
theorem ef_0 (m : MethodId) (p1 : Int32) (p2 : Int32) (p3 : Int32) : entryFrame m #[(.int p1), (.int p2), (.int p3)] maxLocals = mkF m 0 #[.val (.int p1), .val (.int p2), .val (.int p3), .unset, .unset, .unset] [] := by first | (simp [entryFrame, mkF, argsToLocals, Value.category, maxLocals]; done) | rfl
def Q0 (Z : State) (p1 : Int32) (p2 : Int32) (p3 : Int32) (h0 : Heap) (n0 : Nat) (v : Option Value) (h : Heap) (L : List Loc) : Prop := v = some (.int (1 : Int32)) ∧ Fr n0 L
set_option maxRecDepth 65536 in
set_option maxHeartbeats 40000000 in
theorem rm0 (l : Launch) (Z : State) (a0 : Array Value) (hw : ∀ d ∈ tables_1, d.before a0 Z = true) (ws : List Jvm.Cond) (p1 : Int32) (p2 : Int32) (p3 : Int32) (h0 : Heap) (n0 : Nat) (Z0 : n0 ≤ h0.size) :
    MetFree l x (head1 (Jvm.Cond.code x code maxLocals ret :: ws) room_1) (fun a U => a = #[(.int p1), (.int p2), (.int p3)] ∧ Z.Warmed39 U.vm ∧ U.heap = h0) (fun _ _ _ _ _ => True) (fun _ U o U' => ∃ v L, o = .returned v ∧ Q0 Z p1 p2 p3 h0 n0 v U'.heap L ∧ FrameEnd U o U' L room_1.cells room_1.slots) := by
  refine MetFree.of_bodySF (plainFor_of_name pn_0) hisR ?_
  intro p e s m args below meth c s₁ Bd hml0 hP hK
  obtain ⟨rfl, hZ, hh⟩ := hP
  have hx := Bd.exec
  have hby := Bd.bytes
  have hml : c.maxLocals = 6 := hml0
  have hown : s.vm.findClass "com/example/verdikt/verdikt/model/RegexParserTimesStepsPinLaw" = some m.cls := findClass_of_methodNamed Bd.named
  have hnm := (name_of_methodNamed Bd.named Bd.method).1
  have X0 : Stand p l e room_1 s m #[(.int p1), (.int p2), (.int p3)] below meth c s₁ [] 0 0 := Stand.of_body Bd
  have e0 : s₁.heap = h0 := by rw [← hh, Bd.state]; rfl
  have N0 := Fr.nil n0
  have pre0 : ∀ t, Steps p.tables e below (s₁.setTop (mkF m 0 #[.val (.int p1), .val (.int p2), .val (.int p3), .unset, .unset, .unset] [])) t → Steps p.tables e below (s₁.setTop (entryFrame m #[(.int p1), (.int p2), (.int p3)] maxLocals)) t := fun t k => castTop (ef_0 m p1 p2 p3) k
  refine own_step (Q := fun o U' => ∃ v L, o = .returned v ∧ Q0 Z p1 p2 p3 h0 n0 v U'.heap L ∧ FrameEnd s o U' L room_1.cells room_1.slots) pre0 ?_
  have K0 : Keep h0 h0 [] := Keep.refl h0 []
  have st4 : ∀ t, Steps p.tables e below (s₁.setTop (mkF m 56 #[.val (.int p1), .val (.int p2), .val (.int p3), .val (.int (f0_0 p1 p2 p3)), .val (.int (f0_1 p1 p2 p3)), .val (.int (f0_3 p1 p2 p3))] [])) t → Steps p.tables e below (s₁.setTop (mkF m 25 #[.val (.int p1), .val (.int p2), .val (.int p3), .val (.int (f0_0 p1 p2 p3)), .val (.int (f0_1 p1 p2 p3)), .unset] [(.int (f0_1 p1 p2 p3))])) t := by
    intro t k
    by_cases h1 : (f0_1 p1 p2 p3) = (0 : Int32)
    · rw [show (f0_3 p1 p2 p3) = (0 : Int32) from if_pos h1] at k
      show Steps p.tables e below (s₁.setTop (mkF m 25 #[.val (.int p1), .val (.int p2), .val (.int p3), .val (.int (f0_0 p1 p2 p3)), .val (.int (f0_1 p1 p2 p3)), .unset] [(.int (f0_1 p1 p2 p3))])) _
      refine XS.ifNo X0.here hx rfl (hb hby at_25) rfl ((if0 _ _).trans (teq h1).2) ?_
      show Steps p.tables e below (s₁.setTop (mkF m 28 #[.val (.int p1), .val (.int p2), .val (.int p3), .val (.int (f0_0 p1 p2 p3)), .val (.int (f0_1 p1 p2 p3)), .unset] [])) _
      refine XS.iconst X0.here hx rfl (hb hby at_28) ?_
      show Steps p.tables e below (s₁.setTop (mkF m 29 #[.val (.int p1), .val (.int p2), .val (.int p3), .val (.int (f0_0 p1 p2 p3)), .val (.int (f0_1 p1 p2 p3)), .unset] [(.int (0 : Int32))])) _
      refine XS.istore X0.here hx rfl (hb hby at_29) rfl (l' := #[.val (.int p1), .val (.int p2), .val (.int p3), .val (.int (f0_0 p1 p2 p3)), .val (.int (f0_1 p1 p2 p3)), .val (.int (0 : Int32))]) rfl ?_
      show Steps p.tables e below (s₁.setTop (mkF m 31 #[.val (.int p1), .val (.int p2), .val (.int p3), .val (.int (f0_0 p1 p2 p3)), .val (.int (f0_1 p1 p2 p3)), .val (.int (0 : Int32))] [])) _
      refine XS.goto X0.here hx rfl (pc0 := 31) (pc' := 56) rfl (hb hby at_31) (by decide) (by decide) ?_
      exact k
    · have st3 : ∀ t, Steps p.tables e below (s₁.setTop (mkF m 56 #[.val (.int p1), .val (.int p2), .val (.int p3), .val (.int (f0_0 p1 p2 p3)), .val (.int (f0_1 p1 p2 p3)), .val (.int (f0_2 p1 p2 p3))] [])) t → Steps p.tables e below (s₁.setTop (mkF m 40 #[.val (.int p1), .val (.int p2), .val (.int p3), .val (.int (f0_0 p1 p2 p3)), .val (.int (f0_1 p1 p2 p3)), .unset] [(.int ((100001 : Int32) / (f0_1 p1 p2 p3))), (.int (f0_0 p1 p2 p3))])) t := by
        intro t k
        by_cases h2 : ((100001 : Int32) / (f0_1 p1 p2 p3)) < (f0_0 p1 p2 p3)
        · rw [show (f0_2 p1 p2 p3) = (100001 : Int32) from if_pos h2] at k
          show Steps p.tables e below (s₁.setTop (mkF m 40 #[.val (.int p1), .val (.int p2), .val (.int p3), .val (.int (f0_0 p1 p2 p3)), .val (.int (f0_1 p1 p2 p3)), .unset] [(.int ((100001 : Int32) / (f0_1 p1 p2 p3))), (.int (f0_0 p1 p2 p3))])) _
          refine XS.icmpYes X0.here hx rfl (pc0 := 40) (pc' := 52) rfl (hb hby at_40) rfl (tlt h2).2.2.1 (by decide) (by decide) ?_
          show Steps p.tables e below (s₁.setTop (mkF m 52 #[.val (.int p1), .val (.int p2), .val (.int p3), .val (.int (f0_0 p1 p2 p3)), .val (.int (f0_1 p1 p2 p3)), .unset] [])) _
          refine X0.ldcInt hx hown (mvT hZ (hw _ (List.mem_of_getElem? (i := 1) rfl))) (g := (mkF m 52 #[.val (.int p1), .val (.int p2), .val (.int p3), .val (.int (f0_0 p1 p2 p3)), .val (.int (f0_1 p1 p2 p3)), .unset] [])) rfl (hb hby at_52) _ ?_
          show Steps p.tables e below (s₁.setTop (mkF m 54 #[.val (.int p1), .val (.int p2), .val (.int p3), .val (.int (f0_0 p1 p2 p3)), .val (.int (f0_1 p1 p2 p3)), .unset] [(.int (100001 : Int32))])) _
          refine XS.istore X0.here hx rfl (hb hby at_54) rfl (l' := #[.val (.int p1), .val (.int p2), .val (.int p3), .val (.int (f0_0 p1 p2 p3)), .val (.int (f0_1 p1 p2 p3)), .val (.int (100001 : Int32))]) rfl ?_
          exact k
        · rw [show (f0_2 p1 p2 p3) = ((f0_0 p1 p2 p3) * (f0_1 p1 p2 p3)) from if_neg h2] at k
          show Steps p.tables e below (s₁.setTop (mkF m 40 #[.val (.int p1), .val (.int p2), .val (.int p3), .val (.int (f0_0 p1 p2 p3)), .val (.int (f0_1 p1 p2 p3)), .unset] [(.int ((100001 : Int32) / (f0_1 p1 p2 p3))), (.int (f0_0 p1 p2 p3))])) _
          refine XS.icmpNo X0.here hx rfl (hb hby at_40) rfl (flt h2).2.2.1 ?_
          show Steps p.tables e below (s₁.setTop (mkF m 43 #[.val (.int p1), .val (.int p2), .val (.int p3), .val (.int (f0_0 p1 p2 p3)), .val (.int (f0_1 p1 p2 p3)), .unset] [])) _
          refine XS.iloadN X0.here hx rfl (hb hby at_43) rfl ?_
          show Steps p.tables e below (s₁.setTop (mkF m 44 #[.val (.int p1), .val (.int p2), .val (.int p3), .val (.int (f0_0 p1 p2 p3)), .val (.int (f0_1 p1 p2 p3)), .unset] [(.int (f0_0 p1 p2 p3))])) _
          refine XS.iload X0.here hx rfl (hb hby at_44) rfl ?_
          show Steps p.tables e below (s₁.setTop (mkF m 46 #[.val (.int p1), .val (.int p2), .val (.int p3), .val (.int (f0_0 p1 p2 p3)), .val (.int (f0_1 p1 p2 p3)), .unset] [(.int (f0_1 p1 p2 p3)), (.int (f0_0 p1 p2 p3))])) _
          refine XS.imul X0.here hx rfl (hb hby at_46) rfl ?_
          show Steps p.tables e below (s₁.setTop (mkF m 47 #[.val (.int p1), .val (.int p2), .val (.int p3), .val (.int (f0_0 p1 p2 p3)), .val (.int (f0_1 p1 p2 p3)), .unset] [(.int ((f0_0 p1 p2 p3) * (f0_1 p1 p2 p3)))])) _
          refine XS.istore X0.here hx rfl (hb hby at_47) rfl (l' := #[.val (.int p1), .val (.int p2), .val (.int p3), .val (.int (f0_0 p1 p2 p3)), .val (.int (f0_1 p1 p2 p3)), .val (.int ((f0_0 p1 p2 p3) * (f0_1 p1 p2 p3)))]) rfl ?_
          show Steps p.tables e below (s₁.setTop (mkF m 49 #[.val (.int p1), .val (.int p2), .val (.int p3), .val (.int (f0_0 p1 p2 p3)), .val (.int (f0_1 p1 p2 p3)), .val (.int ((f0_0 p1 p2 p3) * (f0_1 p1 p2 p3)))] [])) _
          refine XS.goto X0.here hx rfl (pc0 := 49) (pc' := 56) rfl (hb hby at_49) (by decide) (by decide) ?_
          exact k
      rw [show (f0_3 p1 p2 p3) = (f0_2 p1 p2 p3) from if_neg h1] at k
      show Steps p.tables e below (s₁.setTop (mkF m 25 #[.val (.int p1), .val (.int p2), .val (.int p3), .val (.int (f0_0 p1 p2 p3)), .val (.int (f0_1 p1 p2 p3)), .unset] [(.int (f0_1 p1 p2 p3))])) _
      refine XS.ifYes X0.here hx rfl (pc0 := 25) (pc' := 34) rfl (hb hby at_25) rfl ((if0 _ _).trans (feq h1).2) (by decide) (by decide) ?_
      show Steps p.tables e below (s₁.setTop (mkF m 34 #[.val (.int p1), .val (.int p2), .val (.int p3), .val (.int (f0_0 p1 p2 p3)), .val (.int (f0_1 p1 p2 p3)), .unset] [])) _
      refine XS.iloadN X0.here hx rfl (hb hby at_34) rfl ?_
      show Steps p.tables e below (s₁.setTop (mkF m 35 #[.val (.int p1), .val (.int p2), .val (.int p3), .val (.int (f0_0 p1 p2 p3)), .val (.int (f0_1 p1 p2 p3)), .unset] [(.int (f0_0 p1 p2 p3))])) _
      refine X0.ldcInt hx hown (mvT hZ (hw _ (List.mem_of_getElem? (i := 1) rfl))) (g := (mkF m 35 #[.val (.int p1), .val (.int p2), .val (.int p3), .val (.int (f0_0 p1 p2 p3)), .val (.int (f0_1 p1 p2 p3)), .unset] [(.int (f0_0 p1 p2 p3))])) rfl (hb hby at_35) _ ?_
      show Steps p.tables e below (s₁.setTop (mkF m 37 #[.val (.int p1), .val (.int p2), .val (.int p3), .val (.int (f0_0 p1 p2 p3)), .val (.int (f0_1 p1 p2 p3)), .unset] [(.int (100001 : Int32)), (.int (f0_0 p1 p2 p3))])) _
      refine XS.iload X0.here hx rfl (hb hby at_37) rfl ?_
      show Steps p.tables e below (s₁.setTop (mkF m 39 #[.val (.int p1), .val (.int p2), .val (.int p3), .val (.int (f0_0 p1 p2 p3)), .val (.int (f0_1 p1 p2 p3)), .unset] [(.int (f0_1 p1 p2 p3)), (.int (100001 : Int32)), (.int (f0_0 p1 p2 p3))])) _
      refine XS.idiv X0.here hx rfl (hb hby at_39) rfl h1 ?_
      show Steps p.tables e below (s₁.setTop (mkF m 40 #[.val (.int p1), .val (.int p2), .val (.int p3), .val (.int (f0_0 p1 p2 p3)), .val (.int (f0_1 p1 p2 p3)), .unset] [(.int ((100001 : Int32) / (f0_1 p1 p2 p3))), (.int (f0_0 p1 p2 p3))])) _
      refine st3 _ ?_
      exact k
  obtain ⟨_, _, ⟨T5, L5, k5, n5⟩, -, X5, ⟨Lc5, hQ5, l5, y5, z5⟩, st5⟩ := Jvm.LawKit.callS X0 hx (y := (⟨"com/example/verdikt/verdikt/model/RegexParser", "timesSteps", "(II)I"⟩ : MethodName)) hown (mvT hZ (hw _ (List.mem_of_getElem? (i := 2) rfl))) (mvT hZ (hw _ (List.mem_of_getElem? (i := 3) rfl))) (mvT hZ (hw _ (List.mem_of_getElem? (i := 4) rfl))) (mvT hZ (hw _ (List.mem_of_getElem? (i := 5) rfl))) (by decide) (backOf (W := 0) (rm1 l Z a0 hw [] (f0_0 p1 p2 p3) (f0_1 p1 p2 p3) h0 n0 Z0) hZ (hw _ (List.mem_of_getElem? (i := 5) rfl)) (hw _ (List.mem_of_getElem? (i := 4) rfl)) (by decide) (by decide)) (g := (mkF m 59 #[.val (.int p1), .val (.int p2), .val (.int p3), .val (.int (f0_0 p1 p2 p3)), .val (.int (f0_1 p1 p2 p3)), .val (.int (f0_3 p1 p2 p3))] [(.int (f0_1 p1 p2 p3)), (.int (f0_0 p1 p2 p3))])) rfl (by rw [hml]; rfl) (argsL := [(.int (f0_0 p1 p2 p3)), (.int (f0_1 p1 p2 p3))]) (rest := []) (lenOf pd_1 rfl) rfl (by show 2 * 0 + _ ≤ _; exact Nat.le_of_eq rfl) (hb hby at_59) (fun _ _ => ⟨rfl, e0, (by decide : 0 + 0 ≤ _), (by decide : 0 + 0 ≤ _)⟩)
  dsimp only [Pt.U, Pt.locs, Pt.cells, Pt.slots] at X5 l5 y5 z5 st5 hQ5
  subst l5 y5 z5
  obtain ⟨rfl, N5q, e5⟩ := hQ5
  have N5 := Fr.app N0 N5q
  have st7 : ∀ t, Steps p.tables e below (T5.setTop (mkF m 72 #[.val (.int p1), .val (.int p2), .val (.int p3), .val (.int (f0_0 p1 p2 p3)), .val (.int (f0_1 p1 p2 p3)), .val (.int (f0_3 p1 p2 p3))] [(.int (f0_4 p1 p2 p3))])) t → Steps p.tables e below (T5.setTop (mkF m 64 #[.val (.int p1), .val (.int p2), .val (.int p3), .val (.int (f0_0 p1 p2 p3)), .val (.int (f0_1 p1 p2 p3)), .val (.int (f0_3 p1 p2 p3))] [(.int (f0_3 p1 p2 p3)), (.int (f1 (f0_0 p1 p2 p3) (f0_1 p1 p2 p3)))])) t := by
    intro t k
    by_cases h6 : (f1 (f0_0 p1 p2 p3) (f0_1 p1 p2 p3)) = (f0_3 p1 p2 p3)
    · rw [show (f0_4 p1 p2 p3) = (1 : Int32) from if_pos h6] at k
      show Steps p.tables e below (T5.setTop (mkF m 64 #[.val (.int p1), .val (.int p2), .val (.int p3), .val (.int (f0_0 p1 p2 p3)), .val (.int (f0_1 p1 p2 p3)), .val (.int (f0_3 p1 p2 p3))] [(.int (f0_3 p1 p2 p3)), (.int (f1 (f0_0 p1 p2 p3) (f0_1 p1 p2 p3)))])) _
      refine XS.icmpNo X5.here hx rfl (hb hby at_64) rfl (teq h6).2 ?_
      show Steps p.tables e below (T5.setTop (mkF m 67 #[.val (.int p1), .val (.int p2), .val (.int p3), .val (.int (f0_0 p1 p2 p3)), .val (.int (f0_1 p1 p2 p3)), .val (.int (f0_3 p1 p2 p3))] [])) _
      refine XS.iconst X5.here hx rfl (hb hby at_67) ?_
      show Steps p.tables e below (T5.setTop (mkF m 68 #[.val (.int p1), .val (.int p2), .val (.int p3), .val (.int (f0_0 p1 p2 p3)), .val (.int (f0_1 p1 p2 p3)), .val (.int (f0_3 p1 p2 p3))] [(.int (1 : Int32))])) _
      refine XS.goto X5.here hx rfl (pc0 := 68) (pc' := 72) rfl (hb hby at_68) (by decide) (by decide) ?_
      exact k
    · rw [show (f0_4 p1 p2 p3) = (0 : Int32) from if_neg h6] at k
      show Steps p.tables e below (T5.setTop (mkF m 64 #[.val (.int p1), .val (.int p2), .val (.int p3), .val (.int (f0_0 p1 p2 p3)), .val (.int (f0_1 p1 p2 p3)), .val (.int (f0_3 p1 p2 p3))] [(.int (f0_3 p1 p2 p3)), (.int (f1 (f0_0 p1 p2 p3) (f0_1 p1 p2 p3)))])) _
      refine XS.icmpYes X5.here hx rfl (pc0 := 64) (pc' := 71) rfl (hb hby at_64) rfl (feq h6).2 (by decide) (by decide) ?_
      show Steps p.tables e below (T5.setTop (mkF m 71 #[.val (.int p1), .val (.int p2), .val (.int p3), .val (.int (f0_0 p1 p2 p3)), .val (.int (f0_1 p1 p2 p3)), .val (.int (f0_3 p1 p2 p3))] [])) _
      refine XS.iconst X5.here hx rfl (hb hby at_71) ?_
      exact k
  obtain ⟨fs, hr, hrun, hended, hW, hsame⟩ := X5.leave (v := some (.int ((f0_4 p1 p2 p3) &&& 1))) (fun h => by rw [Bd.returns] at h; cases h)
  refine ⟨_, _, ?_, hrun, hended, _, _, rfl, ?_, ⟨_, rfl⟩, hW, hsame.mono (by decide) (by decide)⟩
  · show Steps p.tables e below (s₁.setTop (mkF m 0 #[.val (.int p1), .val (.int p2), .val (.int p3), .unset, .unset, .unset] [])) _
    refine XS.iloadN X0.here hx rfl (hb hby at_0) rfl ?_
    show Steps p.tables e below (s₁.setTop (mkF m 1 #[.val (.int p1), .val (.int p2), .val (.int p3), .unset, .unset, .unset] [(.int p1)])) _
    refine X0.ldcInt hx hown (mvT hZ (hw _ (List.mem_of_getElem? (i := 0) rfl))) (g := (mkF m 1 #[.val (.int p1), .val (.int p2), .val (.int p3), .unset, .unset, .unset] [(.int p1)])) rfl (hb hby at_1) _ ?_
    show Steps p.tables e below (s₁.setTop (mkF m 3 #[.val (.int p1), .val (.int p2), .val (.int p3), .unset, .unset, .unset] [(.int (2147483647 : Int32)), (.int p1)])) _
    refine XS.iand X0.here hx rfl (hb hby at_3) rfl ?_
    show Steps p.tables e below (s₁.setTop (mkF m 4 #[.val (.int p1), .val (.int p2), .val (.int p3), .unset, .unset, .unset] [(.int (p1 &&& (2147483647 : Int32)))])) _
    refine XS.iloadN X0.here hx rfl (hb hby at_4) rfl ?_
    show Steps p.tables e below (s₁.setTop (mkF m 5 #[.val (.int p1), .val (.int p2), .val (.int p3), .unset, .unset, .unset] [(.int p3), (.int (p1 &&& (2147483647 : Int32)))])) _
    refine XS.bipush X0.here hx rfl (hb hby at_5) ?_
    show Steps p.tables e below (s₁.setTop (mkF m 7 #[.val (.int p1), .val (.int p2), .val (.int p3), .unset, .unset, .unset] [(.int (31 : Int32)), (.int p3), (.int (p1 &&& (2147483647 : Int32)))])) _
    refine XS.iand X0.here hx rfl (hb hby at_7) rfl ?_
    show Steps p.tables e below (s₁.setTop (mkF m 8 #[.val (.int p1), .val (.int p2), .val (.int p3), .unset, .unset, .unset] [(.int (p3 &&& (31 : Int32))), (.int (p1 &&& (2147483647 : Int32)))])) _
    refine XT.iushr X0.here hx rfl (hb hby at_8) rfl ?_
    show Steps p.tables e below (s₁.setTop (mkF m 9 #[.val (.int p1), .val (.int p2), .val (.int p3), .unset, .unset, .unset] [(.int (f0_0 p1 p2 p3))])) _
    refine XS.istoreN X0.here hx rfl (hb hby at_9) rfl (l' := #[.val (.int p1), .val (.int p2), .val (.int p3), .val (.int (f0_0 p1 p2 p3)), .unset, .unset]) rfl ?_
    show Steps p.tables e below (s₁.setTop (mkF m 10 #[.val (.int p1), .val (.int p2), .val (.int p3), .val (.int (f0_0 p1 p2 p3)), .unset, .unset] [])) _
    refine XS.iloadN X0.here hx rfl (hb hby at_10) rfl ?_
    show Steps p.tables e below (s₁.setTop (mkF m 11 #[.val (.int p1), .val (.int p2), .val (.int p3), .val (.int (f0_0 p1 p2 p3)), .unset, .unset] [(.int p2)])) _
    refine X0.ldcInt hx hown (mvT hZ (hw _ (List.mem_of_getElem? (i := 0) rfl))) (g := (mkF m 11 #[.val (.int p1), .val (.int p2), .val (.int p3), .val (.int (f0_0 p1 p2 p3)), .unset, .unset] [(.int p2)])) rfl (hb hby at_11) _ ?_
    show Steps p.tables e below (s₁.setTop (mkF m 13 #[.val (.int p1), .val (.int p2), .val (.int p3), .val (.int (f0_0 p1 p2 p3)), .unset, .unset] [(.int (2147483647 : Int32)), (.int p2)])) _
    refine XS.iand X0.here hx rfl (hb hby at_13) rfl ?_
    show Steps p.tables e below (s₁.setTop (mkF m 14 #[.val (.int p1), .val (.int p2), .val (.int p3), .val (.int (f0_0 p1 p2 p3)), .unset, .unset] [(.int (p2 &&& (2147483647 : Int32)))])) _
    refine XS.iloadN X0.here hx rfl (hb hby at_14) rfl ?_
    show Steps p.tables e below (s₁.setTop (mkF m 15 #[.val (.int p1), .val (.int p2), .val (.int p3), .val (.int (f0_0 p1 p2 p3)), .unset, .unset] [(.int p3), (.int (p2 &&& (2147483647 : Int32)))])) _
    refine XS.iconst X0.here hx rfl (hb hby at_15) ?_
    show Steps p.tables e below (s₁.setTop (mkF m 16 #[.val (.int p1), .val (.int p2), .val (.int p3), .val (.int (f0_0 p1 p2 p3)), .unset, .unset] [(.int (5 : Int32)), (.int p3), (.int (p2 &&& (2147483647 : Int32)))])) _
    refine XT.iushr X0.here hx rfl (hb hby at_16) rfl ?_
    show Steps p.tables e below (s₁.setTop (mkF m 17 #[.val (.int p1), .val (.int p2), .val (.int p3), .val (.int (f0_0 p1 p2 p3)), .unset, .unset] [(.int (XT.ushr p3 (5 : Int32))), (.int (p2 &&& (2147483647 : Int32)))])) _
    refine XS.bipush X0.here hx rfl (hb hby at_17) ?_
    show Steps p.tables e below (s₁.setTop (mkF m 19 #[.val (.int p1), .val (.int p2), .val (.int p3), .val (.int (f0_0 p1 p2 p3)), .unset, .unset] [(.int (31 : Int32)), (.int (XT.ushr p3 (5 : Int32))), (.int (p2 &&& (2147483647 : Int32)))])) _
    refine XS.iand X0.here hx rfl (hb hby at_19) rfl ?_
    show Steps p.tables e below (s₁.setTop (mkF m 20 #[.val (.int p1), .val (.int p2), .val (.int p3), .val (.int (f0_0 p1 p2 p3)), .unset, .unset] [(.int ((XT.ushr p3 (5 : Int32)) &&& (31 : Int32))), (.int (p2 &&& (2147483647 : Int32)))])) _
    refine XT.iushr X0.here hx rfl (hb hby at_20) rfl ?_
    show Steps p.tables e below (s₁.setTop (mkF m 21 #[.val (.int p1), .val (.int p2), .val (.int p3), .val (.int (f0_0 p1 p2 p3)), .unset, .unset] [(.int (f0_1 p1 p2 p3))])) _
    refine XS.istore X0.here hx rfl (hb hby at_21) rfl (l' := #[.val (.int p1), .val (.int p2), .val (.int p3), .val (.int (f0_0 p1 p2 p3)), .val (.int (f0_1 p1 p2 p3)), .unset]) rfl ?_
    show Steps p.tables e below (s₁.setTop (mkF m 23 #[.val (.int p1), .val (.int p2), .val (.int p3), .val (.int (f0_0 p1 p2 p3)), .val (.int (f0_1 p1 p2 p3)), .unset] [])) _
    refine XS.iload X0.here hx rfl (hb hby at_23) rfl ?_
    show Steps p.tables e below (s₁.setTop (mkF m 25 #[.val (.int p1), .val (.int p2), .val (.int p3), .val (.int (f0_0 p1 p2 p3)), .val (.int (f0_1 p1 p2 p3)), .unset] [(.int (f0_1 p1 p2 p3))])) _
    refine st4 _ ?_
    show Steps p.tables e below (s₁.setTop (mkF m 56 #[.val (.int p1), .val (.int p2), .val (.int p3), .val (.int (f0_0 p1 p2 p3)), .val (.int (f0_1 p1 p2 p3)), .val (.int (f0_3 p1 p2 p3))] [])) _
    refine XS.iloadN X0.here hx rfl (hb hby at_56) rfl ?_
    show Steps p.tables e below (s₁.setTop (mkF m 57 #[.val (.int p1), .val (.int p2), .val (.int p3), .val (.int (f0_0 p1 p2 p3)), .val (.int (f0_1 p1 p2 p3)), .val (.int (f0_3 p1 p2 p3))] [(.int (f0_0 p1 p2 p3))])) _
    refine XS.iload X0.here hx rfl (hb hby at_57) rfl ?_
    show Steps p.tables e below (s₁.setTop (mkF m 59 #[.val (.int p1), .val (.int p2), .val (.int p3), .val (.int (f0_0 p1 p2 p3)), .val (.int (f0_1 p1 p2 p3)), .val (.int (f0_3 p1 p2 p3))] [(.int (f0_1 p1 p2 p3)), (.int (f0_0 p1 p2 p3))])) _
    refine st5 _ ?_
    show Steps p.tables e below (T5.setTop (mkF m 62 #[.val (.int p1), .val (.int p2), .val (.int p3), .val (.int (f0_0 p1 p2 p3)), .val (.int (f0_1 p1 p2 p3)), .val (.int (f0_3 p1 p2 p3))] [(.int (f1 (f0_0 p1 p2 p3) (f0_1 p1 p2 p3)))])) _
    refine XS.iload X5.here hx rfl (hb hby at_62) rfl ?_
    show Steps p.tables e below (T5.setTop (mkF m 64 #[.val (.int p1), .val (.int p2), .val (.int p3), .val (.int (f0_0 p1 p2 p3)), .val (.int (f0_1 p1 p2 p3)), .val (.int (f0_3 p1 p2 p3))] [(.int (f0_3 p1 p2 p3)), (.int (f1 (f0_0 p1 p2 p3) (f0_1 p1 p2 p3)))])) _
    refine st7 _ ?_
    show Steps p.tables e below (T5.setTop (mkF m 72 #[.val (.int p1), .val (.int p2), .val (.int p3), .val (.int (f0_0 p1 p2 p3)), .val (.int (f0_1 p1 p2 p3)), .val (.int (f0_3 p1 p2 p3))] [(.int (f0_4 p1 p2 p3))])) _
    exact retN X5 hx (t := .boolean) Bd.returns (by simp) (hb hby at_72) hr
  · show Q0 Z p1 p2 p3 h0 n0 _ T5.heap _
    rw [e5]
    exact ⟨congrArg (fun z => some (Value.int z)) ((show f0 p1 p2 p3 = ((f0_4 p1 p2 p3) &&& 1) from by rfl).symm.trans (own_law p1 p2 p3)), N5⟩
set_option maxRecDepth 65536 in
set_option maxHeartbeats 40000000 in
theorem comes_1 {Post : Tables → Env → Array Value → State → Outcome → State → Prop} (hpost : ∀ tb e args s v u, (limb_1_1.after args s (.returned v) u = true ∧ limb_1_2.after args s (.returned v) u = true ∧ True) → FrameEnd s (.returned v) u (Jvm.fieldLocs frame_1_writes args s ++ Jvm.arrayLocs frame_1_arrays args s ++ Jvm.staticLocs frame_1_statics s) 0 0 → Post tb e args s (.returned v) u) :
    ArmFor flags0 classFile x code maxLocals ret World_1 tables_1 room_1 Calls_1 rest_1 Pre_1 Post := by
  intro l hfl _ _ p e ha hc hk s m args below hf hA hF happ hP
  obtain ⟨hcalls, hrest, hpre⟩ := hP
  obtain ⟨-, -, -, hnamed, -, -, -, hat⟩ := (Spec.applies_iff hf).mp happ
  obtain ⟨hg, hn⟩ := and_e (Cond.before_iff.mp (show (Jvm.Cond.and given_1 narrow_1).before args s = true from hpre))
  obtain ⟨hcnt, hg0⟩ := and_e hg
  obtain ⟨hi0, hg1⟩ := and_e hg0
  obtain ⟨hi1, hg2⟩ := and_e hg1
  obtain ⟨w0, w1, w2, rfl⟩ : ∃ w0 w1 w2 : Value, args = #[w0, w1, w2] := by
    have hs : args.size = 3 := by simpa [Cond.value, given_1] using hcnt
    obtain ⟨L⟩ := args
    match L, hs with
    | [w0, w1, w2], _ => exact ⟨w0, w1, w2, rfl⟩
  have hw := fun d (hd : d ∈ tables_1) => atoms_spec (ws := Jvm.Cond.code x code maxLocals ret :: tables_1) hat d (List.mem_cons_of_mem _ hd)
  have hfit : Fit s := fun {y c} hc i hi => by
    obtain ⟨ha, rfl⟩ := Array.getElem?_eq_some_iff.mp hc
    have q := List.all_eq_true.mp ((Array.all_eq_true_iff_forall_mem.mp hF) _ (Array.getElem_mem ha)) i (List.mem_range.mpr hi)
    simpa [Array.getElem?_eq_getElem hi] using q
  obtain ⟨i0, ei0⟩ := is_v hi0
  obtain rfl : w0 = (.int i0) := Option.some.inj ei0
  obtain ⟨i1, ei1⟩ := is_v hi1
  obtain rfl : w1 = (.int i1) := Option.some.inj ei1
  obtain ⟨i2, ei2⟩ := is_v hg2
  obtain rfl : w2 = (.int i2) := Option.some.inj ei2
  obtain ⟨n, o, h1, h2, h3, _, L, rfl, ⟨rfl, N⟩, hq⟩ := rm0 l s _ hw tables_1 i0 i1 i2 s.heap s.heap.size (Nat.le_refl _) p e ha hc hk s m _ below hf ((Spec.applies_iff_loose hf).mp happ).1 ⟨rfl, State.Warmed39.refl s, rfl⟩ trivial
  refine ⟨n, _, h1, h2, h3, hpost _ _ _ _ _ _ ⟨Cond.after_iff.mpr rfl, Cond.after_iff.mpr (eq_i res_at (Term.int_eval (1)) rfl), trivial⟩ ⟨hq.1, hq.2.1, (hq.2.2.sift fun y hy => Or.inr (N y hy)).mono (by decide) (by decide)⟩⟩
theorem main_1_1 : Claimed_1_1 := comes_1 fun _ _ _ _ _ _ h hF => ⟨h.1, hF⟩
theorem main_1_2 : Claimed_1_2 := comes_1 fun _ _ _ _ _ _ h hF => ⟨h.2.1, hF⟩
end Jvm.Pilot.@@N@@
namespace Jvm.Pilot.@@N@@
open Jvm Jvm.ClassFile Sem Op Lib Jvm.Free Jvm.Stand Jvm.Pilot.@@N@@.Jvm.D
/-! MADE BY PROGRAM (witnessworld.py) out of the Statement's table words and the real class files: 10 classes; the members and pool entries that the words name. The judged class is class 1, her method 1. -/
namespace start1
open Jvm.ClassFile
def u (s : String) : CpInfo := .utf8 (stringToUtf16 s)
/-- a pool by its gaps: so many unusable entries, then the entry; so many at the end -/
def gap : Nat → List CpInfo → List CpInfo
  | 0, r => r
  | n + 1, r => .unusable :: gap n r
def poolList (es : List (Nat × CpInfo)) (last : Nat) : List CpInfo := es.foldr (fun e r => gap e.1 (e.2 :: r)) (gap last [])
def pool (es : List (Nat × CpInfo)) (last : Nat) : Array CpInfo := ⟨poolList es last⟩
def fileOf (pool : Array CpInfo) (this : Nat) (attrs : Array Attribute := #[]) (ms : Array MethodInfo := #[]) (fl : Nat := 33) (sup : Nat := 0) (ifs : Array Nat := #[]) (fds : Array FieldInfo := #[]) : ClassFile where
  minorVersion := 0
  majorVersion := 65
  constantPool := pool
  accessFlags := fl
  thisClass := this
  superClass := sup
  interfaces := ifs
  fields := fds
  methods := ms
  attributes := attrs
def plain (name : String) (sup : Option ClassId) : Class where
  name := name
  kind := .ordinary
  loader := none
  accessFlags := 33
  super := sup
  interfaces := #[]
  cf := none
  fields := #[]
  methods := #[]
  instanceTypes := #[]
  staticTypes := #[]
  resolved := #[]
  callSites := []
  init := .initialized
  statics := none
  mirror := none

def pool0 : Array CpInfo := pool [(5, u "<init>"), (0, u "()V"), (1, .class_ 10), (1, u "java/lang/Object")] 113

def k0m0 : Method := { name := "<init>", desc := "()V", sig := { parameters := [], returnType := none }, accessFlags := 1, code := none }
/-- java/lang/Object -/
def k0 : Class := { plain "java/lang/Object" none with
  accessFlags := 33
  interfaces := #[]
  cf := some (fileOf pool0 8 #[] #[{ accessFlags := 1, nameIndex := 5, descriptorIndex := 6, attributes := #[] }] 33 0 #[] #[])
  fields := #[]
  methods := #[k0m0]
  instanceTypes := #[]
  staticTypes := #[]
  resolved := Array.replicate 124 none
  statics := none }

def pool1 : Array CpInfo := pool [(2, .class_ 4), (1, u "java/lang/Object"), (0, u "<init>"), (0, u "()V"), (0, .integer 2147483647), (0, .class_ 9), (0, u "com/example/verdikt/verdikt/model/RegexParserTimesStepsPinLaw"), (0, .integer 100001), (0, .methodref 12 13), (0, .class_ 14), (0, .nameAndType 15 16), (0, u "com/example/verdikt/verdikt/model/RegexParser"), (0, u "timesSteps"), (0, u "(II)I"), (0, u "CAP"), (0, u "I"), (3, u "law"), (0, u "(III)Z")] 3

def k1m0 : Method := { name := "<init>", desc := "()V", sig := { parameters := [], returnType := none }, accessFlags := 1, code := none }
def k1c1 : Code := { maxStack := 3, maxLocals := 6, code := code, exceptionTable := #[], attributes := #[] }
def k1m1 : Method := { name := "law", desc := "(III)Z", sig := { parameters := [.int, .int, .int], returnType := some .boolean }, accessFlags := 9, code := some k1c1 }
/-- com/example/verdikt/verdikt/model/RegexParserTimesStepsPinLaw -/
def k1 : Class := { plain "com/example/verdikt/verdikt/model/RegexParserTimesStepsPinLaw" (some 0) with
  accessFlags := 49
  interfaces := #[]
  cf := some (fileOf pool1 8 #[] #[{ accessFlags := 1, nameIndex := 5, descriptorIndex := 6, attributes := #[] }, { accessFlags := 9, nameIndex := 22, descriptorIndex := 23, attributes := #[] }] 49 2 #[] #[{ accessFlags := 26, nameIndex := 17, descriptorIndex := 18, attributes := #[] }])
  fields := #[{ name := "CAP", type := .int, accessFlags := 26, slot := 0, constantValue := 0 }]
  methods := #[k1m0, k1m1]
  instanceTypes := #[]
  staticTypes := #[.int]
  resolved := Array.replicate 27 none
  statics := none }

def pool2 : Array CpInfo := pool [(2, .class_ 4), (1, u "java/lang/Object"), (3, .class_ 10), (1, u "com/example/verdikt/verdikt/model/RegexParser"), (0, u "pattern"), (0, u "Ljava/lang/String;"), (4, u "codePoints"), (9, u "[I"), (6, u "next"), (0, u "I"), (37, .long 100001), (1, .methodref 76 77), (0, .class_ 78), (0, .nameAndType 79 80), (0, u "java/lang/Math"), (0, u "min"), (0, u "(JJ)J"), (59, u "depth"), (98, u "CATEGORIES"), (0, u "Ljava/util/Map;"), (32, u "TYPE_CHARS"), (25, u "BLOCK_CHARS"), (130, u "MAX_STEPS"), (1, u "MAX_DEPTH"), (1, u "SINGLE_ESCAPES"), (0, u "META"), (10, u "timesSteps"), (0, u "(II)I")] 76

def k2c0 : Code := { maxStack := 4, maxLocals := 2, code := prog_62_method_4_code, exceptionTable := #[], attributes := #[] }
def k2m0 : Method := { name := "timesSteps", desc := "(II)I", sig := { parameters := [.int, .int], returnType := some .int }, accessFlags := 8, code := some k2c0 }
/-- com/example/verdikt/verdikt/model/RegexParser -/
def k2 : Class := { plain "com/example/verdikt/verdikt/model/RegexParser" (some 0) with
  accessFlags := 48
  interfaces := #[]
  cf := some (fileOf pool2 8 #[] #[{ accessFlags := 8, nameIndex := 446, descriptorIndex := 447, attributes := #[] }] 48 2 #[] #[{ accessFlags := 26, nameIndex := 430, descriptorIndex := 35, attributes := #[] }, { accessFlags := 26, nameIndex := 432, descriptorIndex := 35, attributes := #[] }, { accessFlags := 26, nameIndex := 434, descriptorIndex := 12, attributes := #[] }, { accessFlags := 26, nameIndex := 435, descriptorIndex := 12, attributes := #[] }, { accessFlags := 26, nameIndex := 239, descriptorIndex := 240, attributes := #[] }, { accessFlags := 26, nameIndex := 273, descriptorIndex := 240, attributes := #[] }, { accessFlags := 26, nameIndex := 299, descriptorIndex := 240, attributes := #[] }, { accessFlags := 18, nameIndex := 11, descriptorIndex := 12, attributes := #[] }, { accessFlags := 18, nameIndex := 17, descriptorIndex := 27, attributes := #[] }, { accessFlags := 2, nameIndex := 34, descriptorIndex := 35, attributes := #[] }, { accessFlags := 2, nameIndex := 140, descriptorIndex := 35, attributes := #[] }])
  fields := #[{ name := "MAX_STEPS", type := .int, accessFlags := 26, slot := 0, constantValue := 0 }, { name := "MAX_DEPTH", type := .int, accessFlags := 26, slot := 1, constantValue := 0 }, { name := "SINGLE_ESCAPES", type := (.object "java/lang/String"), accessFlags := 26, slot := 2, constantValue := 0 }, { name := "META", type := (.object "java/lang/String"), accessFlags := 26, slot := 3, constantValue := 0 }, { name := "CATEGORIES", type := (.object "java/util/Map"), accessFlags := 26, slot := 4, constantValue := 0 }, { name := "TYPE_CHARS", type := (.object "java/util/Map"), accessFlags := 26, slot := 5, constantValue := 0 }, { name := "BLOCK_CHARS", type := (.object "java/util/Map"), accessFlags := 26, slot := 6, constantValue := 0 }, { name := "pattern", type := (.object "java/lang/String"), accessFlags := 18, slot := 0, constantValue := 0 }, { name := "codePoints", type := (.array .int), accessFlags := 18, slot := 1, constantValue := 0 }, { name := "next", type := .int, accessFlags := 2, slot := 2, constantValue := 0 }, { name := "depth", type := .int, accessFlags := 2, slot := 3, constantValue := 0 }]
  methods := #[k2m0]
  instanceTypes := #[(.object "java/lang/String"), (.array .int), .int, .int]
  staticTypes := #[.int, .int, (.object "java/lang/String"), (.object "java/lang/String"), (.object "java/util/Map"), (.object "java/util/Map"), (.object "java/util/Map")]
  resolved := Array.replicate 524 none
  statics := none }

def pool3 : Array CpInfo := pool [(1, .class_ 2), (0, u "java/lang/Math"), (1, .class_ 6), (1, u "java/lang/Object"), (0, u "<init>"), (0, u "()V"), (89, .class_ 100), (1, u "java/lang/Math$RandomNumberGeneratorHolder"), (20, u "(JJ)J"), (50, u "negativeZeroFloatBits"), (0, u "J"), (2, u "negativeZeroDoubleBits"), (24, u "min"), (43, u "$assertionsDisabled"), (0, u "Z"), (91, u "twoToTheDoubleScaleDown"), (0, u "D"), (4, u "twoToTheDoubleScaleUp"), (9, u "E"), (3, u "PI"), (2, u "TAU"), (2, u "DEGREES_TO_RADIANS"), (0, u "RADIANS_TO_DEGREES")] 94

def k3m0 : Method := { name := "<init>", desc := "()V", sig := { parameters := [], returnType := none }, accessFlags := 2, code := none }
def k3c1 : Code := { maxStack := 4, maxLocals := 4, code := jdk_29_method_70_code, exceptionTable := #[], attributes := #[] }
def k3m1 : Method := { name := "min", desc := "(JJ)J", sig := { parameters := [.long, .long], returnType := some .long }, accessFlags := 9, code := some k3c1 }
/-- java/lang/Math -/
def k3 : Class := { plain "java/lang/Math" (some 0) with
  accessFlags := 49
  interfaces := #[]
  cf := some (fileOf pool3 1 #[.nestMembers #[98]] #[{ accessFlags := 2, nameIndex := 7, descriptorIndex := 8, attributes := #[] }, { accessFlags := 9, nameIndex := 201, descriptorIndex := 121, attributes := #[] }] 49 4 #[] #[{ accessFlags := 25, nameIndex := 354, descriptorIndex := 339, attributes := #[] }, { accessFlags := 25, nameIndex := 358, descriptorIndex := 339, attributes := #[] }, { accessFlags := 25, nameIndex := 361, descriptorIndex := 339, attributes := #[] }, { accessFlags := 26, nameIndex := 364, descriptorIndex := 339, attributes := #[] }, { accessFlags := 26, nameIndex := 365, descriptorIndex := 339, attributes := #[] }, { accessFlags := 26, nameIndex := 172, descriptorIndex := 173, attributes := #[] }, { accessFlags := 26, nameIndex := 176, descriptorIndex := 173, attributes := #[] }, { accessFlags := 8, nameIndex := 344, descriptorIndex := 339, attributes := #[] }, { accessFlags := 8, nameIndex := 338, descriptorIndex := 339, attributes := #[] }, { accessFlags := 4120, nameIndex := 245, descriptorIndex := 246, attributes := #[] }])
  fields := #[{ name := "E", type := .double, accessFlags := 25, slot := 0, constantValue := 0 }, { name := "PI", type := .double, accessFlags := 25, slot := 1, constantValue := 0 }, { name := "TAU", type := .double, accessFlags := 25, slot := 2, constantValue := 0 }, { name := "DEGREES_TO_RADIANS", type := .double, accessFlags := 26, slot := 3, constantValue := 0 }, { name := "RADIANS_TO_DEGREES", type := .double, accessFlags := 26, slot := 4, constantValue := 0 }, { name := "negativeZeroFloatBits", type := .long, accessFlags := 26, slot := 5, constantValue := 0 }, { name := "negativeZeroDoubleBits", type := .long, accessFlags := 26, slot := 6, constantValue := 0 }, { name := "twoToTheDoubleScaleUp", type := .double, accessFlags := 8, slot := 7, constantValue := 0 }, { name := "twoToTheDoubleScaleDown", type := .double, accessFlags := 8, slot := 8, constantValue := 0 }, { name := "$assertionsDisabled", type := .boolean, accessFlags := 4120, slot := 9, constantValue := 0 }]
  methods := #[k3m0, k3m1]
  instanceTypes := #[]
  staticTypes := #[.double, .double, .double, .double, .double, .long, .long, .double, .double, .boolean]
  resolved := Array.replicate 460 none
  statics := none }

def pool4 : Array CpInfo := pool [(1, u "java/lang/Cloneable"), (0, .class_ 1), (0, u "java/lang/Object"), (0, .class_ 3)] 3

/-- java/lang/Cloneable -/
def k4 : Class := { plain "java/lang/Cloneable" (some 0) with
  accessFlags := 1537
  interfaces := #[]
  cf := some (fileOf pool4 2 #[] #[] 1537 4 #[] #[])
  fields := #[]
  methods := #[]
  instanceTypes := #[]
  staticTypes := #[]
  resolved := Array.replicate 8 none
  statics := none }

def pool5 : Array CpInfo := pool [(1, u "java/io/Serializable"), (0, .class_ 1), (0, u "java/lang/Object"), (0, .class_ 3)] 3

/-- java/io/Serializable -/
def k5 : Class := { plain "java/io/Serializable" (some 0) with
  accessFlags := 1537
  interfaces := #[]
  cf := some (fileOf pool5 2 #[] #[] 1537 4 #[] #[])
  fields := #[]
  methods := #[]
  instanceTypes := #[]
  staticTypes := #[]
  resolved := Array.replicate 8 none
  statics := none }

/-- the primitive byte -/
def k6 : Class := { plain "byte" none with kind := .primitive 'B', accessFlags := 0x411 }
/-- [B -/
def k7 : Class := { plain "[B" (some 0) with kind := .array 6 .byte, interfaces := #[4, 5], accessFlags := 1041 }

/-- the primitive int -/
def k8 : Class := { plain "int" none with kind := .primitive 'I', accessFlags := 0x411 }
/-- [I -/
def k9 : Class := { plain "[I" (some 0) with kind := .array 8 .int, interfaces := #[4, 5], accessFlags := 1041 }

def heap : Heap := #[]
def classes : Array Class := #[k0, k1, k2, k3, k4, k5, k6, k7, k8, k9]
def interned : List (Array UInt16 × Addr) := []
def slotsUsed : Nat := 0
def theMethod : MethodId := ⟨1, 1⟩
def args0 : Array Value := #[.int 7, .int 3, .int 1]
def aboutOver (below : List Frame) : State where
  vm := { classes := classes, interned := interned.toArray }
  heap := heap
  slotsUsed := slotsUsed
  threads := #[{ frames := .invoking theMethod args0 :: below }]
def below0 : List Frame := [.native { method := ⟨0, 0⟩, args := #[] }]
def about1 : State := aboutOver below0
def p0 : Program := .bare "" "" ""
def e0 : Env := launch0.env 0 0 0
theorem w_frames : about1.frames = Frame.invoking theMethod args0 :: below0 := rfl
set_option maxRecDepth 65536 in
theorem w_args : argsFit about1.vm theMethod args0 = true := by decide +kernel
set_option maxRecDepth 65536 in
theorem w_heap : heapFits about1 = true := by decide +kernel
set_option maxRecDepth 65536 in
theorem w_runnable : about1.curStatus? = some .runnable := by decide +kernel
set_option maxRecDepth 65536 in
theorem w_alone : about1.alone = true := by decide +kernel
set_option maxRecDepth 65536 in
theorem w_named : about1.methodNamed? x = some theMethod := by decide +kernel
set_option maxRecDepth 65536 in
theorem w_hears : about1.hears theMethod below0 = true := by decide +kernel
set_option maxRecDepth 65536 in
theorem w_ripe : about1.ripe theMethod args0 below0 = true := by decide +kernel
theorem w_running : about1.status = .running := rfl
set_option maxRecDepth 65536 in
theorem w_room : about1.hasRoom e0.platform room_1 = true :=
  launch0.hasRoom_least _ room_1 (by decide +kernel) (by decide +kernel) (by decide +kernel) (by decide +kernel) (by decide +kernel) (by decide +kernel)
theorem allAtoms_all (ts : List Jvm.Cond) (a : Array Jvm.Value) (st : Jvm.State) : (allAtoms ts).before a st = ts.all (fun c => c.before a st) := by
  induction ts with
  | nil => rfl
  | cons c t ih =>
    show (Jvm.Cond.and c (allAtoms t)).before a st = _
    rw [Jvm.Cond.before_and, ih, List.all_cons]
def words1 : List Jvm.Cond := Jvm.Cond.code x code maxLocals ret :: tables_1
/-- a 'code' word, met by the world's own term for the bytes: nothing is compared byte by byte -/
theorem code_word {y : MethodName} {bytes : ByteArray} {mx : Nat} {rt : Option FieldType} {a : Array Value} {s : State} {m : MethodId} {meth : Method} {c : Code} (h1 : s.methodNamed? y = some m) (h2 : s.vm.method? m = some meth) (h3 : meth.code = some c) (h4 : c.code = bytes)
    (h5 : (c.maxLocals == mx && c.exceptionTable.isEmpty && decide (c.maxStack ≤ mostOperands) && decide (meth.sig.returnType = rt) && !meth.locks && decide (parseMethodDescriptor y.desc = some meth.sig)) = true) : (Jvm.Cond.code y bytes mx rt).before a s = true := by
  simp only [Bool.and_eq_true, beq_iff_eq, Bool.not_eq_true', decide_eq_true_eq] at h5
  obtain ⟨⟨⟨⟨⟨g1, g2⟩, g3⟩, g4⟩, g5⟩, g6⟩ := h5
  simp [Cond.before, Cond.holds, Cond.value, h1, h2, h3, h4, g1, g2, g3, g4, g5, g6]
def isCode : Jvm.Cond → Bool
  | .code _ _ _ _ => true
  | _ => false
theorem all_split {L : List Jvm.Cond} {P : Jvm.Cond → Bool} (h1 : L.all (fun c => isCode c || P c) = true) (h2 : ∀ c ∈ L.filter isCode, P c = true) : L.all P = true := by
  refine List.all_eq_true.mpr fun c hc => ?_
  have h := List.all_eq_true.mp h1 c hc
  rcases Bool.eq_false_or_eq_true (isCode c) with hi | hi
  · exact h2 c (List.mem_filter.mpr ⟨hc, hi⟩)
  · simpa [hi] using h
set_option maxRecDepth 65536 in
theorem w_c0 : (Jvm.Cond.code x code maxLocals ret).before args0 about1 = true := code_word (m := ⟨1, 1⟩) (meth := k1m1) (c := k1c1) (by decide +kernel) rfl rfl rfl (by decide +kernel)
set_option maxRecDepth 65536 in
theorem w_c1 : (Jvm.Cond.code ({ cls := "com/example/verdikt/verdikt/model/RegexParser", name := "timesSteps", desc := "(II)I" } : Jvm.MethodName) prog_62_method_4_code (2 : Nat) (Option.some Jvm.ClassFile.FieldType.int)).before args0 about1 = true := code_word (m := ⟨2, 0⟩) (meth := k2m0) (c := k2c0) (by decide +kernel) rfl rfl rfl (by decide +kernel)
set_option maxRecDepth 65536 in
theorem w_c2 : (Jvm.Cond.code ({ cls := "java/lang/Math", name := "min", desc := "(JJ)J" } : Jvm.MethodName) jdk_29_method_70_code (4 : Nat) (Option.some Jvm.ClassFile.FieldType.long)).before args0 about1 = true := code_word (m := ⟨3, 1⟩) (meth := k3m1) (c := k3c1) (by decide +kernel) rfl rfl rfl (by decide +kernel)
def codes1 : List Jvm.Cond := [Jvm.Cond.code x code maxLocals ret, Jvm.Cond.code ({ cls := "com/example/verdikt/verdikt/model/RegexParser", name := "timesSteps", desc := "(II)I" } : Jvm.MethodName) prog_62_method_4_code (2 : Nat) (Option.some Jvm.ClassFile.FieldType.int), Jvm.Cond.code ({ cls := "java/lang/Math", name := "min", desc := "(JJ)J" } : Jvm.MethodName) jdk_29_method_70_code (4 : Nat) (Option.some Jvm.ClassFile.FieldType.long)]
set_option maxRecDepth 65536 in
theorem codes_eq : words1.filter isCode = codes1 := rfl
theorem w_codes : ∀ c ∈ words1.filter isCode, c.before args0 about1 = true := by
  rw [codes_eq]
  intro c hc
  simp only [codes1, List.mem_cons, List.not_mem_nil, or_false] at hc
  rcases hc with rfl | rfl | rfl
  · exact w_c0
  · exact w_c1
  · exact w_c2
set_option maxRecDepth 65536 in
theorem w_t1 : words1.all (fun c => isCode c || c.before args0 about1) = true := by decide +kernel
theorem w_tables : (allAtoms (Jvm.Cond.code x code maxLocals ret :: tables_1)).before args0 about1 = true := by
  rw [allAtoms_all]
  show words1.all (fun c => c.before args0 about1) = true
  refine all_split ?_ w_codes
  rw [w_t1]
set_option maxRecDepth 65536 in
theorem w_case : (Jvm.Cond.and given_1 narrow_1).before args0 about1 = true := by decide +kernel
theorem w_applies : (headSpec (Jvm.Cond.code x code maxLocals ret :: tables_1) room_1).applies x e0.platform about1 = true :=
  (Spec.applies_iff w_frames).mpr ⟨w_running, w_runnable, w_alone, w_named, w_hears, w_ripe, w_room, w_tables⟩
theorem atStart : AtStart classFile x code maxLocals ret World_1 tables_1 room_1 Calls_1 rest_1 Pre_1 launch0 p0 e0 about1 theMethod args0 below0 :=
  ⟨lists_1, trivial, launch0.admits_env _ _ _, launch0.least_env, fairChoices_fair.cas, fairChoices_fair.clock, w_frames, w_args, w_heap, w_applies, trivial, trivial, w_case⟩
end start1
theorem witness_1 : WitnessClaimed_1 := ⟨start1.p0, start1.e0, start1.about1, start1.theMethod, start1.args0, start1.below0, start1.atStart⟩
end Jvm.Pilot.@@N@@
