import JvmDerived
import JvmDerived.Pilot.@@N@@Statement
import JvmDerived.Pilot.@@N@@Code
set_option linter.unusedVariables false
set_option linter.unusedSimpArgs false
namespace Jvm.RoadKit
open Sem ClassFile Op Lib Jvm.Stand Jvm.Free Jvm.LawKit
section New
variable {p : Program} {l : Launch} {e : Env} {R : Room} {s : State} {m : MethodId} {args : Array Value} {below : List Frame} {meth : Method} {c : Code} {T : State} {locs : List Loc} {cells slots : Nat}
theorem retI (X : Stand p l e R s m args below meth c T locs cells slots) (hx : p.tables.exec = Jvm.exec) {pc : Nat} {Ls : Array Slot} {z : Int32} {rest : List Value} (hret : meth.sig.returnType = some .int) (hd : decode c.code pc = .ok (.ireturn, 1)) {fs : List Frame}
    (hl : ∀ (f : JFrame) (acts : List Action), f.method = m → f.locked = none → f.entered = [] → (doReturn e (T.setTop f) acts (some (.int z))).1 = T.setFrames fs) : Steps p.tables e below (T.setTop (mkF m pc Ls (.int z :: rest))) (T.setFrames fs) := by
  have hm' : T.vm.method? m = some meth := X.method'
  have hn : narrow .int (.int z) = .int z := rfl
  show Steps p.tables e below (T.setTop { method := m, pc := pc, locals := Ls, stack := _ :: rest, locked := none }) _
  jvm_step X.here [X.here.top, hx, hd, hm', hret, hn]
  first | (intro acts; rw [hl _ acts rfl rfl rfl]) | rw [hl _ _ rfl rfl rfl]
  exact Steps.refl _
end New
end Jvm.RoadKit
namespace Jvm.Pilot.@@N@@
open Jvm Jvm.ClassFile Sem Op Lib Jvm.Free Jvm.Stand Jvm.LawKit Jvm.RoadKit Bundle Jvm.Pilot.@@N@@.Jvm.D
def f1 (p1 : Int32) (s0_PERMIT : Addr) (s1_DENY : Addr) (s4_NOT_APPLICABLE : Addr) (s5_INDETERMINATE_DP : Addr) (s6_INDETERMINATE_D : Addr) (s7_INDETERMINATE_P : Addr) : Addr := (if p1 = (0 : Int32) then s0_PERMIT else (if p1 = (1 : Int32) then s1_DENY else (if p1 = (2 : Int32) then s4_NOT_APPLICABLE else (if p1 = (3 : Int32) then s6_INDETERMINATE_D else (if p1 = (4 : Int32) then s7_INDETERMINATE_P else s5_INDETERMINATE_DP)))))
def f3 (a1 : Addr) (u1 : Int32) : Int32 := u1
def fm0 (a1 : Addr) (s0_PERMIT : Addr) (s1_DENY : Addr) (s4_NOT_APPLICABLE : Addr) (s5_INDETERMINATE_DP : Addr) (s6_INDETERMINATE_D : Addr) (s7_INDETERMINATE_P : Addr) : Addr := s1_DENY
def fm1 (a1 : Addr) (s0_PERMIT : Addr) (s1_DENY : Addr) (s4_NOT_APPLICABLE : Addr) (s5_INDETERMINATE_DP : Addr) (s6_INDETERMINATE_D : Addr) (s7_INDETERMINATE_P : Addr) : Addr := s0_PERMIT
def fm2 (a1 : Addr) (s0_PERMIT : Addr) (s1_DENY : Addr) (s4_NOT_APPLICABLE : Addr) (s5_INDETERMINATE_DP : Addr) (s6_INDETERMINATE_D : Addr) (s7_INDETERMINATE_P : Addr) : Addr := a1
def fm3 (a1 : Addr) (s0_PERMIT : Addr) (s1_DENY : Addr) (s4_NOT_APPLICABLE : Addr) (s5_INDETERMINATE_DP : Addr) (s6_INDETERMINATE_D : Addr) (s7_INDETERMINATE_P : Addr) : Addr := s7_INDETERMINATE_P
def fm4 (a1 : Addr) (s0_PERMIT : Addr) (s1_DENY : Addr) (s4_NOT_APPLICABLE : Addr) (s5_INDETERMINATE_DP : Addr) (s6_INDETERMINATE_D : Addr) (s7_INDETERMINATE_P : Addr) : Addr := s6_INDETERMINATE_D
def fm5 (a1 : Addr) (s0_PERMIT : Addr) (s1_DENY : Addr) (s4_NOT_APPLICABLE : Addr) (s5_INDETERMINATE_DP : Addr) (s6_INDETERMINATE_D : Addr) (s7_INDETERMINATE_P : Addr) : Addr := a1
def f4 (a1 : Addr) (u1 : Addr) : Addr := u1
def f5 (a1 : Addr) (s2_DENY : Addr) (s3_PERMIT : Addr) (s8_INDETERMINATE : Addr) (s9_NOT_APPLICABLE : Addr) : Addr := (if a1 = s3_PERMIT then s2_DENY else (if a1 = s2_DENY then s3_PERMIT else a1))
def f0_0 (p1 : Int32) (s0_PERMIT : Addr) (s1_DENY : Addr) (s2_DENY : Addr) (s3_PERMIT : Addr) (s4_NOT_APPLICABLE : Addr) (s5_INDETERMINATE_DP : Addr) (s6_INDETERMINATE_D : Addr) (s7_INDETERMINATE_P : Addr) (s8_INDETERMINATE : Addr) (s9_NOT_APPLICABLE : Addr) : Int32 := ((p1 &&& (2147483647 : Int32)) - ((p1 &&& (2147483647 : Int32)) / (6 : Int32)) * (6 : Int32))
theorem own_max (z : Int32) : 0 ≤ (z &&& (2147483647 : Int32)).toInt := by
  have h1 : (z &&& (2147483647 : Int32)).toBitVec.toNat = z.toBitVec.toNat % 2147483648 := by
    show (z.toBitVec &&& (2147483647 : Int32).toBitVec).toNat = _
    rw [BitVec.toNat_and, show (2147483647 : Int32).toBitVec.toNat = 2 ^ 31 - 1 from by decide, Nat.and_two_pow_sub_one_eq_mod]
  have h2 : (z &&& (2147483647 : Int32)).toInt = (z.toBitVec.toNat % 2147483648 : Nat) := by
    show (z &&& (2147483647 : Int32)).toBitVec.toInt = _
    rw [BitVec.toInt_eq_toNat_cond, h1, if_pos (by omega)]
  rw [h2]; omega
theorem own_m6 (p : Int32) {a b c d e f g h i j : Addr} : f0_0 p a b c d e f g h i j = 0 ∨ f0_0 p a b c d e f g h i j = 1 ∨ f0_0 p a b c d e f g h i j = 2 ∨ f0_0 p a b c d e f g h i j = 3 ∨ f0_0 p a b c d e f g h i j = 4 ∨ f0_0 p a b c d e f g h i j = 5 := by
  have h0 := own_max p
  have h2 : (f0_0 p a b c d e f g h i j).toInt = (p &&& (2147483647 : Int32)).toInt % 6 := by
    rw [f0_0]
    generalize p &&& (2147483647 : Int32) = x at *
    have hx := x.toInt_lt
    have d : (x / 6).toInt = x.toInt / 6 := by
      rw [Int32.toInt_div_of_ne_right x 6 (by decide), show (6 : Int32).toInt = 6 from by decide, Int.tdiv_eq_ediv_of_nonneg h0]
    rw [Int32.toInt_sub, Int32.toInt_mul, d, show (6 : Int32).toInt = 6 from by decide]
    have b1 : (x.toInt / 6 * 6).bmod (2 ^ 32) = x.toInt / 6 * 6 := by rw [Int.bmod_def]; omega
    rw [b1, Int.bmod_def]
    omega
  simp only [← Int32.toInt_inj, h2, show (0 : Int32).toInt = 0 from by decide, show (1 : Int32).toInt = 1 from by decide, show (2 : Int32).toInt = 2 from by decide, show (3 : Int32).toInt = 3 from by decide, show (4 : Int32).toInt = 4 from by decide, show (5 : Int32).toInt = 5 from by decide]
  omega

abbrev own_G (tb : Tables) (e : Env) (below : List Frame) (Q : Outcome → State → Prop) (A : State) : Prop := ∃ s₂ o, Steps tb e below A s₂ ∧ s₂.status = .running ∧ Ended s₂ below o ∧ Q o s₂
theorem own_step {tb : Tables} {e : Env} {below : List Frame} {Q : Outcome → State → Prop} {A B : State} (h : ∀ t, Steps tb e below B t → Steps tb e below A t) (g : own_G tb e below Q B) : own_G tb e below Q A := by
  obtain ⟨s2, o, h1, h2⟩ := g
  exact ⟨s2, o, h _ h1, h2⟩
theorem own_aT {x y : Addr} (h : x = y) : XT.acmp .eq (.ref x) (.ref y) = true ∧ XT.acmp .ne (.ref x) (.ref y) = false := by subst h; exact ⟨by simp [XT.acmp], by simp [XT.acmp]⟩
theorem own_aF {x y : Addr} (h : ¬ x = y) : XT.acmp .eq (.ref x) (.ref y) = false ∧ XT.acmp .ne (.ref x) (.ref y) = true := by simp [XT.acmp, h]
theorem own_cl (x y : Int64) : XT.cmpL x y < 0 ↔ x < y := lw_lt x y
theorem own_cg (x y : Int64) : 0 < XT.cmpL x y ↔ y < x := lw_gt x y
theorem own_ce (x y : Int64) : XT.cmpL x y = 0 ↔ x = y := lw_eq x y
theorem own_fint {args : Array Value} {s : State} {t : Term} {C n d : String} {x : Addr} {k : Int32} (ht : t.eval args s none [] s = some (.ref x)) (h : (Jvm.Cond.eq (.field t C n d) (.int k)).value args s none s [] = some true) : s.fieldOf? x C n d = some (.int k) := by
  obtain ⟨a, b, ha, hb, k1, k2⟩ := cmp_v (Or.inl h)
  cases (Term.int_eval k (args := args) (first := s) (o := none) (idx := []) (s := s)).symm.trans hb
  obtain ⟨z, rfl⟩ := k2
  have e := gotT (Cond.eq_ints ha hb) h
  subst e
  rw [← fld_at ht]; exact ha
theorem own_fref {args : Array Value} {s : State} {t u : Term} {C n d : String} {x y : Addr} (ht : t.eval args s none [] s = some (.ref x)) (hu : u.eval args s none [] s = some (.ref y)) (h : (Jvm.Cond.eq (.field t C n d) u).value args s none s [] = some true) : s.fieldOf? x C n d = some (.ref y) := by
  obtain ⟨a, b, ha, hb, k1, k2⟩ := cmp_v (Or.inl h)
  cases hu.symm.trans hb
  have e := gotT (eq_R ha hb k2.2 rfl) h
  subst e
  rw [← fld_at ht]; exact ha
theorem own_fne {s : State} {C n d : String} {x y : Addr} {a b : Int32} (h1 : s.fieldOf? x C n d = some (.int a)) (h2 : s.fieldOf? y C n d = some (.int b)) (h : a ≠ b) : x ≠ y := by
  rintro rfl
  rw [h1] at h2
  cases h2
  exact h rfl
theorem pd_0 : parseMethodDescriptor "()I" = some ⟨[], some .int⟩ := by decide +kernel
theorem pd_1 : parseMethodDescriptor "(I)Lcom/example/verdikt/verdikt/model/ExtendedDecision;" = some ⟨[.int], some (.object "com/example/verdikt/verdikt/model/ExtendedDecision")⟩ := by decide +kernel
theorem pd_2 : parseMethodDescriptor "()Lcom/example/verdikt/verdikt/model/ExtendedDecision;" = some ⟨[], some (.object "com/example/verdikt/verdikt/model/ExtendedDecision")⟩ := by decide +kernel
theorem pd_3 : parseMethodDescriptor "()Lcom/example/verdikt/verdikt/model/Decision;" = some ⟨[], some (.object "com/example/verdikt/verdikt/model/Decision")⟩ := by decide +kernel
theorem pd_4 : parseMethodDescriptor "(Lcom/example/verdikt/verdikt/model/Decision;)Lcom/example/verdikt/verdikt/model/Decision;" = some ⟨[(.object "com/example/verdikt/verdikt/model/Decision")], some (.object "com/example/verdikt/verdikt/model/Decision")⟩ := by decide +kernel
theorem d1_0 : decode method_2_code 0 = .ok (.iload_n 0, 1) := by decide +kernel
theorem d1_1 : decode method_2_code 1 = .ok (.ifCond .ne 7, 3) := by decide +kernel
theorem d1_4 : decode method_2_code 4 = .ok (.getstatic 7, 3) := by decide +kernel
theorem d1_7 : decode method_2_code 7 = .ok (.areturn, 1) := by decide +kernel
theorem d1_8 : decode method_2_code 8 = .ok (.iload_n 0, 1) := by decide +kernel
theorem d1_9 : decode method_2_code 9 = .ok (.iconst 1, 1) := by decide +kernel
theorem d1_10 : decode method_2_code 10 = .ok (.if_icmp .ne 7, 3) := by decide +kernel
theorem d1_13 : decode method_2_code 13 = .ok (.getstatic 13, 3) := by decide +kernel
theorem d1_16 : decode method_2_code 16 = .ok (.areturn, 1) := by decide +kernel
theorem d1_17 : decode method_2_code 17 = .ok (.iload_n 0, 1) := by decide +kernel
theorem d1_18 : decode method_2_code 18 = .ok (.iconst 2, 1) := by decide +kernel
theorem d1_19 : decode method_2_code 19 = .ok (.if_icmp .ne 7, 3) := by decide +kernel
theorem d1_22 : decode method_2_code 22 = .ok (.getstatic 16, 3) := by decide +kernel
theorem d1_25 : decode method_2_code 25 = .ok (.areturn, 1) := by decide +kernel
theorem d1_26 : decode method_2_code 26 = .ok (.iload_n 0, 1) := by decide +kernel
theorem d1_27 : decode method_2_code 27 = .ok (.iconst 3, 1) := by decide +kernel
theorem d1_28 : decode method_2_code 28 = .ok (.if_icmp .ne 7, 3) := by decide +kernel
theorem d1_31 : decode method_2_code 31 = .ok (.getstatic 19, 3) := by decide +kernel
theorem d1_34 : decode method_2_code 34 = .ok (.areturn, 1) := by decide +kernel
theorem d1_35 : decode method_2_code 35 = .ok (.iload_n 0, 1) := by decide +kernel
theorem d1_36 : decode method_2_code 36 = .ok (.iconst 4, 1) := by decide +kernel
theorem d1_37 : decode method_2_code 37 = .ok (.if_icmp .ne 7, 3) := by decide +kernel
theorem d1_40 : decode method_2_code 40 = .ok (.getstatic 22, 3) := by decide +kernel
theorem d1_43 : decode method_2_code 43 = .ok (.areturn, 1) := by decide +kernel
theorem d1_44 : decode method_2_code 44 = .ok (.getstatic 25, 3) := by decide +kernel
theorem d1_47 : decode method_2_code 47 = .ok (.areturn, 1) := by decide +kernel
theorem pn_1 : plainName "com/example/verdikt/verdikt/model/ExtendedDecisionMirrorPinLaw" = true := by first | (simp [plainName, overriddenIn]; done) | decide +kernel
theorem ef_1 (m : MethodId) (p1 : Int32) : entryFrame m #[(.int p1)] 1 = mkF m 0 #[.val (.int p1)] [] := by first | (simp [entryFrame, mkF, argsToLocals, Value.category]; done) | rfl
def Q1 (Z : State) (p1 : Int32) (s0_PERMIT : Addr) (s1_DENY : Addr) (s4_NOT_APPLICABLE : Addr) (s5_INDETERMINATE_DP : Addr) (s6_INDETERMINATE_D : Addr) (s7_INDETERMINATE_P : Addr) (h0 : Heap) (n0 : Nat) (v : Option Value) (h : Heap) (L : List Loc) : Prop := v = some (.ref (f1 p1 s0_PERMIT s1_DENY s4_NOT_APPLICABLE s5_INDETERMINATE_DP s6_INDETERMINATE_D s7_INDETERMINATE_P)) ∧ Fr n0 L ∧ h = h0
set_option maxRecDepth 65536 in
set_option maxHeartbeats 40000000 in
theorem rm1 (l : Launch) (Z : State) (a0 : Array Value) (hw : ∀ d ∈ tables_1, d.before a0 Z = true) (ws : List Jvm.Cond) (p1 : Int32) (s0_PERMIT : Addr) (s1_DENY : Addr) (s4_NOT_APPLICABLE : Addr) (s5_INDETERMINATE_DP : Addr) (s6_INDETERMINATE_D : Addr) (s7_INDETERMINATE_P : Addr) (h0 : Heap) (n0 : Nat) (Z0 : n0 ≤ h0.size) (S_ExtendedDecision_PERMIT : Sta Z h0 "com/example/verdikt/verdikt/model/ExtendedDecision" "PERMIT" "Lcom/example/verdikt/verdikt/model/ExtendedDecision;" (.ref s0_PERMIT)) (S_ExtendedDecision_DENY : Sta Z h0 "com/example/verdikt/verdikt/model/ExtendedDecision" "DENY" "Lcom/example/verdikt/verdikt/model/ExtendedDecision;" (.ref s1_DENY)) (S_ExtendedDecision_NOT_APPLICABLE : Sta Z h0 "com/example/verdikt/verdikt/model/ExtendedDecision" "NOT_APPLICABLE" "Lcom/example/verdikt/verdikt/model/ExtendedDecision;" (.ref s4_NOT_APPLICABLE)) (S_ExtendedDecision_INDETERMINATE_DP : Sta Z h0 "com/example/verdikt/verdikt/model/ExtendedDecision" "INDETERMINATE_DP" "Lcom/example/verdikt/verdikt/model/ExtendedDecision;" (.ref s5_INDETERMINATE_DP)) (S_ExtendedDecision_INDETERMINATE_D : Sta Z h0 "com/example/verdikt/verdikt/model/ExtendedDecision" "INDETERMINATE_D" "Lcom/example/verdikt/verdikt/model/ExtendedDecision;" (.ref s6_INDETERMINATE_D)) (S_ExtendedDecision_INDETERMINATE_P : Sta Z h0 "com/example/verdikt/verdikt/model/ExtendedDecision" "INDETERMINATE_P" "Lcom/example/verdikt/verdikt/model/ExtendedDecision;" (.ref s7_INDETERMINATE_P)) :
    MetFree l (⟨"com/example/verdikt/verdikt/model/ExtendedDecisionMirrorPinLaw", "pick", "(I)Lcom/example/verdikt/verdikt/model/ExtendedDecision;"⟩ : MethodName) (head1 (Jvm.Cond.code (⟨"com/example/verdikt/verdikt/model/ExtendedDecisionMirrorPinLaw", "pick", "(I)Lcom/example/verdikt/verdikt/model/ExtendedDecision;"⟩ : MethodName) method_2_code 1 (some (.object "com/example/verdikt/verdikt/model/ExtendedDecision")) :: ws) ({ frames := 0, cells := 0, slots := 0, locals := 0 } : Room)) (fun a U => a = #[(.int p1)] ∧ Z.Warmed39 U.vm ∧ U.heap = h0) (fun _ _ _ _ _ => True) (fun _ U o U' => ∃ v L, o = .returned v ∧ Q1 Z p1 s0_PERMIT s1_DENY s4_NOT_APPLICABLE s5_INDETERMINATE_DP s6_INDETERMINATE_D s7_INDETERMINATE_P h0 n0 v U'.heap L ∧ FrameEnd U o U' L ({ frames := 0, cells := 0, slots := 0, locals := 0 } : Room).cells ({ frames := 0, cells := 0, slots := 0, locals := 0 } : Room).slots) := by
  refine MetFree.of_bodySF (plainFor_of_name pn_1) hisR ?_
  intro p e s m args below meth c s₁ Bd hml0 hP hK
  obtain ⟨rfl, hZ, hh⟩ := hP
  have hx := Bd.exec
  have hby := Bd.bytes
  have hml : c.maxLocals = 1 := hml0
  have hown : s.vm.findClass "com/example/verdikt/verdikt/model/ExtendedDecisionMirrorPinLaw" = some m.cls := findClass_of_methodNamed Bd.named
  have hnm := (name_of_methodNamed Bd.named Bd.method).1
  have X0 : Stand p l e ({ frames := 0, cells := 0, slots := 0, locals := 0 } : Room) s m #[(.int p1)] below meth c s₁ [] 0 0 := Stand.of_body Bd
  have e0 : s₁.heap = h0 := by rw [← hh, Bd.state]; rfl
  have N0 := Fr.nil n0
  have pre0 : ∀ t, Steps p.tables e below (s₁.setTop (mkF m 0 #[.val (.int p1)] [])) t → Steps p.tables e below (s₁.setTop (entryFrame m #[(.int p1)] 1)) t := fun t k => castTop (ef_1 m p1) k
  refine own_step (Q := fun o U' => ∃ v L, o = .returned v ∧ Q1 Z p1 s0_PERMIT s1_DENY s4_NOT_APPLICABLE s5_INDETERMINATE_DP s6_INDETERMINATE_D s7_INDETERMINATE_P h0 n0 v U'.heap L ∧ FrameEnd s o U' L ({ frames := 0, cells := 0, slots := 0, locals := 0 } : Room).cells ({ frames := 0, cells := 0, slots := 0, locals := 0 } : Room).slots) pre0 ?_
  refine own_step (B := s₁.setTop (mkF m 1 #[.val (.int p1)] [(.int p1)])) (fun t k => ?_) ?_
  · show Steps p.tables e below (s₁.setTop (mkF m 0 #[.val (.int p1)] [])) _
    refine XS.iloadN X0.here hx rfl (hb hby d1_0) rfl ?_
    exact k
  by_cases h1 : p1 = (0 : Int32)
  · obtain ⟨T2, X2, e2, st2⟩ := getS X0 hx hZ (host := "") hown (hw _ (List.mem_of_getElem? (i := 5) rfl)) Via.refl e0 S_ExtendedDecision_PERMIT (g := (mkF m 4 #[.val (.int p1)] [])) rfl (hb hby d1_4)
    obtain ⟨fs, hr, hrun, hended, hW, hsame⟩ := X2.leave (v := some (.ref s0_PERMIT)) (fun h => by rw [Bd.returns] at h; cases h)
    refine ⟨_, _, ?_, hrun, hended, _, _, rfl, ?_, ⟨_, rfl⟩, hW, hsame.mono (by decide) (by decide)⟩
    · show Steps p.tables e below (s₁.setTop (mkF m 1 #[.val (.int p1)] [(.int p1)])) _
      refine XS.ifNo X0.here hx rfl (hb hby d1_1) rfl ((if0 _ _).trans (teq h1).2) ?_
      show Steps p.tables e below (s₁.setTop (mkF m 4 #[.val (.int p1)] [])) _
      refine st2 _ ?_
      show Steps p.tables e below (T2.setTop (mkF m 7 #[.val (.int p1)] [(.ref s0_PERMIT)])) _
      jvm_step X2.here [X2.here.top, hx, (hb hby d1_7), X2.method', Bd.returns, Value.isRef, FieldType.isReference]
      first | (intro acts; rw [hr _ acts rfl rfl rfl]) | rw [hr _ _ rfl rfl rfl]
      exact Steps.refl _
    · show Q1 Z p1 s0_PERMIT s1_DENY s4_NOT_APPLICABLE s5_INDETERMINATE_DP s6_INDETERMINATE_D s7_INDETERMINATE_P h0 n0 _ T2.heap _
      rw [e2]
      have hf : f1 p1 s0_PERMIT s1_DENY s4_NOT_APPLICABLE s5_INDETERMINATE_DP s6_INDETERMINATE_D s7_INDETERMINATE_P = s0_PERMIT := by simp only [f1, if_pos h1]
      exact ⟨by rw [hf], N0, rfl⟩
  · refine own_step (B := s₁.setTop (mkF m 10 #[.val (.int p1)] [(.int (1 : Int32)), (.int p1)])) (fun t k => ?_) ?_
    · show Steps p.tables e below (s₁.setTop (mkF m 1 #[.val (.int p1)] [(.int p1)])) _
      refine XS.ifYes X0.here hx rfl (pc0 := 1) (pc' := 8) rfl (hb hby d1_1) rfl ((if0 _ _).trans (feq h1).2) (by decide) (by decide) ?_
      show Steps p.tables e below (s₁.setTop (mkF m 8 #[.val (.int p1)] [])) _
      refine XS.iloadN X0.here hx rfl (hb hby d1_8) rfl ?_
      show Steps p.tables e below (s₁.setTop (mkF m 9 #[.val (.int p1)] [(.int p1)])) _
      refine XS.iconst X0.here hx rfl (hb hby d1_9) ?_
      exact k
    by_cases h3 : p1 = (1 : Int32)
    · obtain ⟨T4, X4, e4, st4⟩ := getS X0 hx hZ (host := "") hown (hw _ (List.mem_of_getElem? (i := 51) rfl)) Via.refl e0 S_ExtendedDecision_DENY (g := (mkF m 13 #[.val (.int p1)] [])) rfl (hb hby d1_13)
      obtain ⟨fs, hr, hrun, hended, hW, hsame⟩ := X4.leave (v := some (.ref s1_DENY)) (fun h => by rw [Bd.returns] at h; cases h)
      refine ⟨_, _, ?_, hrun, hended, _, _, rfl, ?_, ⟨_, rfl⟩, hW, hsame.mono (by decide) (by decide)⟩
      · show Steps p.tables e below (s₁.setTop (mkF m 10 #[.val (.int p1)] [(.int (1 : Int32)), (.int p1)])) _
        refine XS.icmpNo X0.here hx rfl (hb hby d1_10) rfl (teq h3).2 ?_
        show Steps p.tables e below (s₁.setTop (mkF m 13 #[.val (.int p1)] [])) _
        refine st4 _ ?_
        show Steps p.tables e below (T4.setTop (mkF m 16 #[.val (.int p1)] [(.ref s1_DENY)])) _
        jvm_step X4.here [X4.here.top, hx, (hb hby d1_16), X4.method', Bd.returns, Value.isRef, FieldType.isReference]
        first | (intro acts; rw [hr _ acts rfl rfl rfl]) | rw [hr _ _ rfl rfl rfl]
        exact Steps.refl _
      · show Q1 Z p1 s0_PERMIT s1_DENY s4_NOT_APPLICABLE s5_INDETERMINATE_DP s6_INDETERMINATE_D s7_INDETERMINATE_P h0 n0 _ T4.heap _
        rw [e4]
        have hf : f1 p1 s0_PERMIT s1_DENY s4_NOT_APPLICABLE s5_INDETERMINATE_DP s6_INDETERMINATE_D s7_INDETERMINATE_P = s1_DENY := by simp only [f1, if_neg h1, if_pos h3]
        exact ⟨by rw [hf], N0, rfl⟩
    · refine own_step (B := s₁.setTop (mkF m 19 #[.val (.int p1)] [(.int (2 : Int32)), (.int p1)])) (fun t k => ?_) ?_
      · show Steps p.tables e below (s₁.setTop (mkF m 10 #[.val (.int p1)] [(.int (1 : Int32)), (.int p1)])) _
        refine XS.icmpYes X0.here hx rfl (pc0 := 10) (pc' := 17) rfl (hb hby d1_10) rfl (feq h3).2 (by decide) (by decide) ?_
        show Steps p.tables e below (s₁.setTop (mkF m 17 #[.val (.int p1)] [])) _
        refine XS.iloadN X0.here hx rfl (hb hby d1_17) rfl ?_
        show Steps p.tables e below (s₁.setTop (mkF m 18 #[.val (.int p1)] [(.int p1)])) _
        refine XS.iconst X0.here hx rfl (hb hby d1_18) ?_
        exact k
      by_cases h5 : p1 = (2 : Int32)
      · obtain ⟨T6, X6, e6, st6⟩ := getS X0 hx hZ (host := "") hown (hw _ (List.mem_of_getElem? (i := 40) rfl)) Via.refl e0 S_ExtendedDecision_NOT_APPLICABLE (g := (mkF m 22 #[.val (.int p1)] [])) rfl (hb hby d1_22)
        obtain ⟨fs, hr, hrun, hended, hW, hsame⟩ := X6.leave (v := some (.ref s4_NOT_APPLICABLE)) (fun h => by rw [Bd.returns] at h; cases h)
        refine ⟨_, _, ?_, hrun, hended, _, _, rfl, ?_, ⟨_, rfl⟩, hW, hsame.mono (by decide) (by decide)⟩
        · show Steps p.tables e below (s₁.setTop (mkF m 19 #[.val (.int p1)] [(.int (2 : Int32)), (.int p1)])) _
          refine XS.icmpNo X0.here hx rfl (hb hby d1_19) rfl (teq h5).2 ?_
          show Steps p.tables e below (s₁.setTop (mkF m 22 #[.val (.int p1)] [])) _
          refine st6 _ ?_
          show Steps p.tables e below (T6.setTop (mkF m 25 #[.val (.int p1)] [(.ref s4_NOT_APPLICABLE)])) _
          jvm_step X6.here [X6.here.top, hx, (hb hby d1_25), X6.method', Bd.returns, Value.isRef, FieldType.isReference]
          first | (intro acts; rw [hr _ acts rfl rfl rfl]) | rw [hr _ _ rfl rfl rfl]
          exact Steps.refl _
        · show Q1 Z p1 s0_PERMIT s1_DENY s4_NOT_APPLICABLE s5_INDETERMINATE_DP s6_INDETERMINATE_D s7_INDETERMINATE_P h0 n0 _ T6.heap _
          rw [e6]
          have hf : f1 p1 s0_PERMIT s1_DENY s4_NOT_APPLICABLE s5_INDETERMINATE_DP s6_INDETERMINATE_D s7_INDETERMINATE_P = s4_NOT_APPLICABLE := by simp only [f1, if_neg h1, if_neg h3, if_pos h5]
          exact ⟨by rw [hf], N0, rfl⟩
      · refine own_step (B := s₁.setTop (mkF m 28 #[.val (.int p1)] [(.int (3 : Int32)), (.int p1)])) (fun t k => ?_) ?_
        · show Steps p.tables e below (s₁.setTop (mkF m 19 #[.val (.int p1)] [(.int (2 : Int32)), (.int p1)])) _
          refine XS.icmpYes X0.here hx rfl (pc0 := 19) (pc' := 26) rfl (hb hby d1_19) rfl (feq h5).2 (by decide) (by decide) ?_
          show Steps p.tables e below (s₁.setTop (mkF m 26 #[.val (.int p1)] [])) _
          refine XS.iloadN X0.here hx rfl (hb hby d1_26) rfl ?_
          show Steps p.tables e below (s₁.setTop (mkF m 27 #[.val (.int p1)] [(.int p1)])) _
          refine XS.iconst X0.here hx rfl (hb hby d1_27) ?_
          exact k
        by_cases h7 : p1 = (3 : Int32)
        · obtain ⟨T8, X8, e8, st8⟩ := getS X0 hx hZ (host := "") hown (hw _ (List.mem_of_getElem? (i := 44) rfl)) Via.refl e0 S_ExtendedDecision_INDETERMINATE_D (g := (mkF m 31 #[.val (.int p1)] [])) rfl (hb hby d1_31)
          obtain ⟨fs, hr, hrun, hended, hW, hsame⟩ := X8.leave (v := some (.ref s6_INDETERMINATE_D)) (fun h => by rw [Bd.returns] at h; cases h)
          refine ⟨_, _, ?_, hrun, hended, _, _, rfl, ?_, ⟨_, rfl⟩, hW, hsame.mono (by decide) (by decide)⟩
          · show Steps p.tables e below (s₁.setTop (mkF m 28 #[.val (.int p1)] [(.int (3 : Int32)), (.int p1)])) _
            refine XS.icmpNo X0.here hx rfl (hb hby d1_28) rfl (teq h7).2 ?_
            show Steps p.tables e below (s₁.setTop (mkF m 31 #[.val (.int p1)] [])) _
            refine st8 _ ?_
            show Steps p.tables e below (T8.setTop (mkF m 34 #[.val (.int p1)] [(.ref s6_INDETERMINATE_D)])) _
            jvm_step X8.here [X8.here.top, hx, (hb hby d1_34), X8.method', Bd.returns, Value.isRef, FieldType.isReference]
            first | (intro acts; rw [hr _ acts rfl rfl rfl]) | rw [hr _ _ rfl rfl rfl]
            exact Steps.refl _
          · show Q1 Z p1 s0_PERMIT s1_DENY s4_NOT_APPLICABLE s5_INDETERMINATE_DP s6_INDETERMINATE_D s7_INDETERMINATE_P h0 n0 _ T8.heap _
            rw [e8]
            have hf : f1 p1 s0_PERMIT s1_DENY s4_NOT_APPLICABLE s5_INDETERMINATE_DP s6_INDETERMINATE_D s7_INDETERMINATE_P = s6_INDETERMINATE_D := by simp only [f1, if_neg h1, if_neg h3, if_neg h5, if_pos h7]
            exact ⟨by rw [hf], N0, rfl⟩
        · refine own_step (B := s₁.setTop (mkF m 37 #[.val (.int p1)] [(.int (4 : Int32)), (.int p1)])) (fun t k => ?_) ?_
          · show Steps p.tables e below (s₁.setTop (mkF m 28 #[.val (.int p1)] [(.int (3 : Int32)), (.int p1)])) _
            refine XS.icmpYes X0.here hx rfl (pc0 := 28) (pc' := 35) rfl (hb hby d1_28) rfl (feq h7).2 (by decide) (by decide) ?_
            show Steps p.tables e below (s₁.setTop (mkF m 35 #[.val (.int p1)] [])) _
            refine XS.iloadN X0.here hx rfl (hb hby d1_35) rfl ?_
            show Steps p.tables e below (s₁.setTop (mkF m 36 #[.val (.int p1)] [(.int p1)])) _
            refine XS.iconst X0.here hx rfl (hb hby d1_36) ?_
            exact k
          by_cases h9 : p1 = (4 : Int32)
          · obtain ⟨T10, X10, e10, st10⟩ := getS X0 hx hZ (host := "") hown (hw _ (List.mem_of_getElem? (i := 52) rfl)) Via.refl e0 S_ExtendedDecision_INDETERMINATE_P (g := (mkF m 40 #[.val (.int p1)] [])) rfl (hb hby d1_40)
            obtain ⟨fs, hr, hrun, hended, hW, hsame⟩ := X10.leave (v := some (.ref s7_INDETERMINATE_P)) (fun h => by rw [Bd.returns] at h; cases h)
            refine ⟨_, _, ?_, hrun, hended, _, _, rfl, ?_, ⟨_, rfl⟩, hW, hsame.mono (by decide) (by decide)⟩
            · show Steps p.tables e below (s₁.setTop (mkF m 37 #[.val (.int p1)] [(.int (4 : Int32)), (.int p1)])) _
              refine XS.icmpNo X0.here hx rfl (hb hby d1_37) rfl (teq h9).2 ?_
              show Steps p.tables e below (s₁.setTop (mkF m 40 #[.val (.int p1)] [])) _
              refine st10 _ ?_
              show Steps p.tables e below (T10.setTop (mkF m 43 #[.val (.int p1)] [(.ref s7_INDETERMINATE_P)])) _
              jvm_step X10.here [X10.here.top, hx, (hb hby d1_43), X10.method', Bd.returns, Value.isRef, FieldType.isReference]
              first | (intro acts; rw [hr _ acts rfl rfl rfl]) | rw [hr _ _ rfl rfl rfl]
              exact Steps.refl _
            · show Q1 Z p1 s0_PERMIT s1_DENY s4_NOT_APPLICABLE s5_INDETERMINATE_DP s6_INDETERMINATE_D s7_INDETERMINATE_P h0 n0 _ T10.heap _
              rw [e10]
              have hf : f1 p1 s0_PERMIT s1_DENY s4_NOT_APPLICABLE s5_INDETERMINATE_DP s6_INDETERMINATE_D s7_INDETERMINATE_P = s7_INDETERMINATE_P := by simp only [f1, if_neg h1, if_neg h3, if_neg h5, if_neg h7, if_pos h9]
              exact ⟨by rw [hf], N0, rfl⟩
          · obtain ⟨T11, X11, e11, st11⟩ := getS X0 hx hZ (host := "") hown (hw _ (List.mem_of_getElem? (i := 42) rfl)) Via.refl e0 S_ExtendedDecision_INDETERMINATE_DP (g := (mkF m 44 #[.val (.int p1)] [])) rfl (hb hby d1_44)
            obtain ⟨fs, hr, hrun, hended, hW, hsame⟩ := X11.leave (v := some (.ref s5_INDETERMINATE_DP)) (fun h => by rw [Bd.returns] at h; cases h)
            refine ⟨_, _, ?_, hrun, hended, _, _, rfl, ?_, ⟨_, rfl⟩, hW, hsame.mono (by decide) (by decide)⟩
            · show Steps p.tables e below (s₁.setTop (mkF m 37 #[.val (.int p1)] [(.int (4 : Int32)), (.int p1)])) _
              refine XS.icmpYes X0.here hx rfl (pc0 := 37) (pc' := 44) rfl (hb hby d1_37) rfl (feq h9).2 (by decide) (by decide) ?_
              show Steps p.tables e below (s₁.setTop (mkF m 44 #[.val (.int p1)] [])) _
              refine st11 _ ?_
              show Steps p.tables e below (T11.setTop (mkF m 47 #[.val (.int p1)] [(.ref s5_INDETERMINATE_DP)])) _
              jvm_step X11.here [X11.here.top, hx, (hb hby d1_47), X11.method', Bd.returns, Value.isRef, FieldType.isReference]
              first | (intro acts; rw [hr _ acts rfl rfl rfl]) | rw [hr _ _ rfl rfl rfl]
              exact Steps.refl _
            · show Q1 Z p1 s0_PERMIT s1_DENY s4_NOT_APPLICABLE s5_INDETERMINATE_DP s6_INDETERMINATE_D s7_INDETERMINATE_P h0 n0 _ T11.heap _
              rw [e11]
              have hf : f1 p1 s0_PERMIT s1_DENY s4_NOT_APPLICABLE s5_INDETERMINATE_DP s6_INDETERMINATE_D s7_INDETERMINATE_P = s5_INDETERMINATE_DP := by simp only [f1, if_neg h1, if_neg h3, if_neg h5, if_neg h7, if_neg h9]
              exact ⟨by rw [hf], N0, rfl⟩
theorem d3_0 : decode jdk_37_method_2_code 0 = .ok (.aload_n 0, 1) := by decide +kernel
theorem d3_1 : decode jdk_37_method_2_code 1 = .ok (.getfield 7, 3) := by decide +kernel
theorem d3_4 : decode jdk_37_method_2_code 4 = .ok (.ireturn, 1) := by decide +kernel
theorem pn_3 : plainName "java/lang/Enum" = true := by first | (simp [plainName, overriddenIn]; done) | decide +kernel
theorem ef_3 (m : MethodId) (a1 : Addr) : entryFrame m #[(.ref a1)] 1 = mkF m 0 #[.val (.ref a1)] [] := by first | (simp [entryFrame, mkF, argsToLocals, Value.category]; done) | rfl
def Q3 (Z : State) (a1 : Addr) (u1 : Int32) (h0 : Heap) (n0 : Nat) (v : Option Value) (h : Heap) (L : List Loc) : Prop := v = some (.int (f3 a1 u1)) ∧ Fr n0 L ∧ h = h0
set_option maxRecDepth 65536 in
set_option maxHeartbeats 40000000 in
theorem rm3 (l : Launch) (Z : State) (a0 : Array Value) (hw : ∀ d ∈ tables_1, d.before a0 Z = true) (ws : List Jvm.Cond) (a1 : Addr) (u1 : Int32) (h0 : Heap) (n0 : Nat) (Z0 : n0 ≤ h0.size) (F_a1_ordinal : Fld Z h0 a1 "java/lang/Enum" "ordinal" "I" (.int u1)) :
    MetFree l (⟨"java/lang/Enum", "ordinal", "()I"⟩ : MethodName) (head1 (Jvm.Cond.code (⟨"java/lang/Enum", "ordinal", "()I"⟩ : MethodName) jdk_37_method_2_code 1 (some .int) :: ws) ({ frames := 0, cells := 0, slots := 0, locals := 0 } : Room)) (fun a U => a = #[(.ref a1)] ∧ Z.Warmed39 U.vm ∧ U.heap = h0) (fun _ _ _ _ _ => True) (fun _ U o U' => ∃ v L, o = .returned v ∧ Q3 Z a1 u1 h0 n0 v U'.heap L ∧ FrameEnd U o U' L ({ frames := 0, cells := 0, slots := 0, locals := 0 } : Room).cells ({ frames := 0, cells := 0, slots := 0, locals := 0 } : Room).slots) := by
  refine MetFree.of_bodySF (plainFor_of_name pn_3) hisR ?_
  intro p e s m args below meth c s₁ Bd hml0 hP hK
  obtain ⟨rfl, hZ, hh⟩ := hP
  have hx := Bd.exec
  have hby := Bd.bytes
  have hml : c.maxLocals = 1 := hml0
  have hown : s.vm.findClass "java/lang/Enum" = some m.cls := findClass_of_methodNamed Bd.named
  have hnm := (name_of_methodNamed Bd.named Bd.method).1
  have X0 : Stand p l e ({ frames := 0, cells := 0, slots := 0, locals := 0 } : Room) s m #[(.ref a1)] below meth c s₁ [] 0 0 := Stand.of_body Bd
  have e0 : s₁.heap = h0 := by rw [← hh, Bd.state]; rfl
  have N0 := Fr.nil n0
  have pre0 : ∀ t, Steps p.tables e below (s₁.setTop (mkF m 0 #[.val (.ref a1)] [])) t → Steps p.tables e below (s₁.setTop (entryFrame m #[(.ref a1)] 1)) t := fun t k => castTop (ef_3 m a1) k
  refine own_step (Q := fun o U' => ∃ v L, o = .returned v ∧ Q3 Z a1 u1 h0 n0 v U'.heap L ∧ FrameEnd s o U' L ({ frames := 0, cells := 0, slots := 0, locals := 0 } : Room).cells ({ frames := 0, cells := 0, slots := 0, locals := 0 } : Room).slots) pre0 ?_
  obtain ⟨T1, X1, e1, st1⟩ := getF X0 hx hZ hown (host := "") (Or.inl (hw _ (List.mem_of_getElem? (i := 20) rfl))) Via.refl e0 F_a1_ordinal (g := (mkF m 1 #[.val (.ref a1)] [(.ref a1)])) rfl rfl (hb hby d3_1)
  obtain ⟨fs, hr, hrun, hended, hW, hsame⟩ := X1.leave (v := some (.int u1)) (fun h => by rw [Bd.returns] at h; cases h)
  refine ⟨_, _, ?_, hrun, hended, _, _, rfl, ?_, ⟨_, rfl⟩, hW, hsame.mono (by decide) (by decide)⟩
  · show Steps p.tables e below (s₁.setTop (mkF m 0 #[.val (.ref a1)] [])) _
    refine XS.aloadN X0.here hx rfl (hb hby d3_0) rfl rfl ?_
    show Steps p.tables e below (s₁.setTop (mkF m 1 #[.val (.ref a1)] [(.ref a1)])) _
    refine st1 _ ?_
    show Steps p.tables e below (T1.setTop (mkF m 4 #[.val (.ref a1)] [(.int u1)])) _
    exact retI X1 hx Bd.returns (hb hby d3_4) hr
  · show Q3 Z a1 u1 h0 n0 _ T1.heap _
    rw [e1]
    have hf : f3 a1 u1 = u1 := rfl
    exact ⟨by rw [hf], N0, rfl⟩
theorem d2_0 : decode prog_41_method_5_code 0 = .ok (.aload_n 0, 1) := by decide +kernel
theorem d2_1 : decode prog_41_method_5_code 1 = .ok (.invokevirtual 45, 3) := by decide +kernel
theorem d2_4 : decode prog_41_method_5_code 4 = .ok (.tableswitch 64 0 4 #[36, 43, 64, 50, 57], 36) := by decide +kernel
theorem d2_40 : decode prog_41_method_5_code 40 = .ok (.getstatic 7, 3) := by decide +kernel
theorem d2_43 : decode prog_41_method_5_code 43 = .ok (.astore_n 1, 1) := by decide +kernel
theorem d2_44 : decode prog_41_method_5_code 44 = .ok (.goto 26, 3) := by decide +kernel
theorem d2_70 : decode prog_41_method_5_code 70 = .ok (.aload_n 1, 1) := by decide +kernel
theorem d2_71 : decode prog_41_method_5_code 71 = .ok (.areturn, 1) := by decide +kernel
theorem pn_m0 : plainName "com/example/verdikt/verdikt/model/ExtendedDecision" = true := by first | (simp [plainName, overriddenIn]; done) | decide +kernel
theorem ef_m0 (m : MethodId) (a1 : Addr) : entryFrame m #[(.ref a1)] 2 = mkF m 0 #[.val (.ref a1), .unset] [] := by first | (simp [entryFrame, mkF, argsToLocals, Value.category]; done) | rfl
def Qm0 (Z : State) (a1 : Addr) (s0_PERMIT : Addr) (s1_DENY : Addr) (s4_NOT_APPLICABLE : Addr) (s5_INDETERMINATE_DP : Addr) (s6_INDETERMINATE_D : Addr) (s7_INDETERMINATE_P : Addr) (h0 : Heap) (n0 : Nat) (v : Option Value) (h : Heap) (L : List Loc) : Prop := v = some (.ref (fm0 a1 s0_PERMIT s1_DENY s4_NOT_APPLICABLE s5_INDETERMINATE_DP s6_INDETERMINATE_D s7_INDETERMINATE_P)) ∧ Fr n0 L ∧ h = h0
set_option maxRecDepth 65536 in
set_option maxHeartbeats 40000000 in
theorem rmm0 (l : Launch) (Z : State) (a0 : Array Value) (hw : ∀ d ∈ tables_1, d.before a0 Z = true) (ws : List Jvm.Cond) (a1 : Addr) (s0_PERMIT : Addr) (s1_DENY : Addr) (s4_NOT_APPLICABLE : Addr) (s5_INDETERMINATE_DP : Addr) (s6_INDETERMINATE_D : Addr) (s7_INDETERMINATE_P : Addr) (h0 : Heap) (n0 : Nat) (Z0 : n0 ≤ h0.size) (E_a1 : Exa Z h0 a1 "com/example/verdikt/verdikt/model/ExtendedDecision") (F_a1_ordinal : Fld Z h0 a1 "java/lang/Enum" "ordinal" "I" (.int (0 : Int32))) (S_ExtendedDecision_PERMIT : Sta Z h0 "com/example/verdikt/verdikt/model/ExtendedDecision" "PERMIT" "Lcom/example/verdikt/verdikt/model/ExtendedDecision;" (.ref s0_PERMIT)) (S_ExtendedDecision_DENY : Sta Z h0 "com/example/verdikt/verdikt/model/ExtendedDecision" "DENY" "Lcom/example/verdikt/verdikt/model/ExtendedDecision;" (.ref s1_DENY)) (S_ExtendedDecision_NOT_APPLICABLE : Sta Z h0 "com/example/verdikt/verdikt/model/ExtendedDecision" "NOT_APPLICABLE" "Lcom/example/verdikt/verdikt/model/ExtendedDecision;" (.ref s4_NOT_APPLICABLE)) (S_ExtendedDecision_INDETERMINATE_DP : Sta Z h0 "com/example/verdikt/verdikt/model/ExtendedDecision" "INDETERMINATE_DP" "Lcom/example/verdikt/verdikt/model/ExtendedDecision;" (.ref s5_INDETERMINATE_DP)) (S_ExtendedDecision_INDETERMINATE_D : Sta Z h0 "com/example/verdikt/verdikt/model/ExtendedDecision" "INDETERMINATE_D" "Lcom/example/verdikt/verdikt/model/ExtendedDecision;" (.ref s6_INDETERMINATE_D)) (S_ExtendedDecision_INDETERMINATE_P : Sta Z h0 "com/example/verdikt/verdikt/model/ExtendedDecision" "INDETERMINATE_P" "Lcom/example/verdikt/verdikt/model/ExtendedDecision;" (.ref s7_INDETERMINATE_P)) :
    MetFree l (⟨"com/example/verdikt/verdikt/model/ExtendedDecision", "mirror", "()Lcom/example/verdikt/verdikt/model/ExtendedDecision;"⟩ : MethodName) (head1 (Jvm.Cond.code (⟨"com/example/verdikt/verdikt/model/ExtendedDecision", "mirror", "()Lcom/example/verdikt/verdikt/model/ExtendedDecision;"⟩ : MethodName) prog_41_method_5_code 2 (some (.object "com/example/verdikt/verdikt/model/ExtendedDecision")) :: ws) ({ frames := 1, cells := 0, slots := 0, locals := 12 } : Room)) (fun a U => a = #[(.ref a1)] ∧ Z.Warmed39 U.vm ∧ U.heap = h0) (fun _ _ _ _ _ => True) (fun _ U o U' => ∃ v L, o = .returned v ∧ Qm0 Z a1 s0_PERMIT s1_DENY s4_NOT_APPLICABLE s5_INDETERMINATE_DP s6_INDETERMINATE_D s7_INDETERMINATE_P h0 n0 v U'.heap L ∧ FrameEnd U o U' L ({ frames := 1, cells := 0, slots := 0, locals := 12 } : Room).cells ({ frames := 1, cells := 0, slots := 0, locals := 12 } : Room).slots) := by
  refine MetFree.of_bodySF (plainFor_of_name pn_m0) hisR ?_
  intro p e s m args below meth c s₁ Bd hml0 hP hK
  obtain ⟨rfl, hZ, hh⟩ := hP
  have hx := Bd.exec
  have hby := Bd.bytes
  have hml : c.maxLocals = 2 := hml0
  have hown : s.vm.findClass "com/example/verdikt/verdikt/model/ExtendedDecision" = some m.cls := findClass_of_methodNamed Bd.named
  have hnm := (name_of_methodNamed Bd.named Bd.method).1
  have X0 : Stand p l e ({ frames := 1, cells := 0, slots := 0, locals := 12 } : Room) s m #[(.ref a1)] below meth c s₁ [] 0 0 := Stand.of_body Bd
  have e0 : s₁.heap = h0 := by rw [← hh, Bd.state]; rfl
  have N0 := Fr.nil n0
  have pre0 : ∀ t, Steps p.tables e below (s₁.setTop (mkF m 0 #[.val (.ref a1), .unset] [])) t → Steps p.tables e below (s₁.setTop (entryFrame m #[(.ref a1)] 2)) t := fun t k => castTop (ef_m0 m a1) k
  refine own_step (Q := fun o U' => ∃ v L, o = .returned v ∧ Qm0 Z a1 s0_PERMIT s1_DENY s4_NOT_APPLICABLE s5_INDETERMINATE_DP s6_INDETERMINATE_D s7_INDETERMINATE_P h0 n0 v U'.heap L ∧ FrameEnd s o U' L ({ frames := 1, cells := 0, slots := 0, locals := 12 } : Room).cells ({ frames := 1, cells := 0, slots := 0, locals := 12 } : Room).slots) pre0 ?_
  obtain ⟨cq1, kq1, q1a, q1b, q1c⟩ := isOf hZ e0 E_a1
  obtain ⟨_, _, ⟨T1, L1, k1, n1⟩, -, X1, ⟨Lc1, hQ1, l1, y1, z1⟩, st1⟩ := X0.virtualBackUp hx (x := (⟨"com/example/verdikt/verdikt/model/ExtendedDecision", "ordinal", "()I"⟩ : MethodName)) (y := (⟨"java/lang/Enum", "ordinal", "()I"⟩ : MethodName)) (owner := "java/lang/Enum") hown (mvT hZ (hw _ (List.mem_of_getElem? (i := 13) rfl))) (mvT hZ (hw _ (List.mem_of_getElem? (i := 14) rfl))) (mvT hZ (hw _ (List.mem_of_getElem? (i := 15) rfl))) (by decide) (mvT hZ (hw _ (List.mem_of_getElem? (i := 17) rfl))) (mvT hZ (hw _ (List.mem_of_getElem? (i := 16) rfl))) (backOf (W := 0) (rm3 l Z a0 hw [] a1 (0 : Int32) h0 n0 Z0 F_a1_ordinal) hZ (hw _ (List.mem_of_getElem? (i := 19) rfl)) (hw _ (List.mem_of_getElem? (i := 18) rfl)) (by decide) (by decide)) q1a q1c (g := (mkF m 1 #[.val (.ref a1), .unset] [(.ref a1)])) rfl (by rw [hml]; rfl) (Steps.refl _) (argsL := []) (rest := []) (lenOf pd_0 rfl) rfl (by show 2 * 0 + _ ≤ _; exact Nat.le_of_eq rfl) (hb hby d2_1) (fun _ _ => ⟨rfl, e0, (by decide : 0 + 0 ≤ _), (by decide : 0 + 0 ≤ _)⟩)
  dsimp only [Pt.U, Pt.locs, Pt.cells, Pt.slots] at X1 l1 y1 z1 st1 hQ1
  subst l1 y1 z1
  obtain ⟨hv1, N1q, e1⟩ := hQ1
  rw [show f3 a1 (0 : Int32) = (0 : Int32) from rfl] at hv1
  subst hv1
  have N1 := Fr.app N0 N1q
  obtain ⟨T2, X2, e2, st2⟩ := getS X1 hx hZ (host := "") hown (hw _ (List.mem_of_getElem? (i := 22) rfl)) Via.refl e1 S_ExtendedDecision_DENY (g := (mkF m 40 #[.val (.ref a1), .unset] [])) rfl (hb hby d2_40)
  obtain ⟨fs, hr, hrun, hended, hW, hsame⟩ := X2.leave (v := some (.ref s1_DENY)) (fun h => by rw [Bd.returns] at h; cases h)
  refine ⟨_, _, ?_, hrun, hended, _, _, rfl, ?_, ⟨_, rfl⟩, hW, hsame.mono (by decide) (by decide)⟩
  · show Steps p.tables e below (s₁.setTop (mkF m 0 #[.val (.ref a1), .unset] [])) _
    refine XS.aloadN X0.here hx rfl (hb hby d2_0) rfl rfl ?_
    show Steps p.tables e below (s₁.setTop (mkF m 1 #[.val (.ref a1), .unset] [(.ref a1)])) _
    refine st1.trans ?_
    show Steps p.tables e below (T1.setTop (mkF m 4 #[.val (.ref a1), .unset] [(.int (0 : Int32))])) _
    refine XS.tswIn X1.here hx rfl (pc0 := 4) (pc' := 40) rfl (hb hby d2_4) rfl (by decide) (o := 36) (by decide) (by decide) (by decide) ?_
    show Steps p.tables e below (T1.setTop (mkF m 40 #[.val (.ref a1), .unset] [])) _
    refine st2 _ ?_
    show Steps p.tables e below (T2.setTop (mkF m 43 #[.val (.ref a1), .unset] [(.ref s1_DENY)])) _
    refine XS.astoreN X2.here hx rfl (hb hby d2_43) rfl rfl (l' := #[.val (.ref a1), .val (.ref s1_DENY)]) rfl ?_
    show Steps p.tables e below (T2.setTop (mkF m 44 #[.val (.ref a1), .val (.ref s1_DENY)] [])) _
    refine XS.goto X2.here hx rfl (pc0 := 44) (pc' := 70) rfl (hb hby d2_44) (by decide) (by decide) ?_
    show Steps p.tables e below (T2.setTop (mkF m 70 #[.val (.ref a1), .val (.ref s1_DENY)] [])) _
    refine XS.aloadN X2.here hx rfl (hb hby d2_70) rfl rfl ?_
    show Steps p.tables e below (T2.setTop (mkF m 71 #[.val (.ref a1), .val (.ref s1_DENY)] [(.ref s1_DENY)])) _
    jvm_step X2.here [X2.here.top, hx, (hb hby d2_71), X2.method', Bd.returns, Value.isRef, FieldType.isReference]
    first | (intro acts; rw [hr _ acts rfl rfl rfl]) | rw [hr _ _ rfl rfl rfl]
    exact Steps.refl _
  · show Qm0 Z a1 s0_PERMIT s1_DENY s4_NOT_APPLICABLE s5_INDETERMINATE_DP s6_INDETERMINATE_D s7_INDETERMINATE_P h0 n0 _ T2.heap _
    rw [e2]
    have hf : fm0 a1 s0_PERMIT s1_DENY s4_NOT_APPLICABLE s5_INDETERMINATE_DP s6_INDETERMINATE_D s7_INDETERMINATE_P = s1_DENY := rfl
    exact ⟨by rw [hf], N1, rfl⟩
theorem d2_47 : decode prog_41_method_5_code 47 = .ok (.getstatic 3, 3) := by decide +kernel
theorem d2_50 : decode prog_41_method_5_code 50 = .ok (.astore_n 1, 1) := by decide +kernel
theorem d2_51 : decode prog_41_method_5_code 51 = .ok (.goto 19, 3) := by decide +kernel
theorem pn_m1 : plainName "com/example/verdikt/verdikt/model/ExtendedDecision" = true := by first | (simp [plainName, overriddenIn]; done) | decide +kernel
theorem ef_m1 (m : MethodId) (a1 : Addr) : entryFrame m #[(.ref a1)] 2 = mkF m 0 #[.val (.ref a1), .unset] [] := by first | (simp [entryFrame, mkF, argsToLocals, Value.category]; done) | rfl
def Qm1 (Z : State) (a1 : Addr) (s0_PERMIT : Addr) (s1_DENY : Addr) (s4_NOT_APPLICABLE : Addr) (s5_INDETERMINATE_DP : Addr) (s6_INDETERMINATE_D : Addr) (s7_INDETERMINATE_P : Addr) (h0 : Heap) (n0 : Nat) (v : Option Value) (h : Heap) (L : List Loc) : Prop := v = some (.ref (fm1 a1 s0_PERMIT s1_DENY s4_NOT_APPLICABLE s5_INDETERMINATE_DP s6_INDETERMINATE_D s7_INDETERMINATE_P)) ∧ Fr n0 L ∧ h = h0
set_option maxRecDepth 65536 in
set_option maxHeartbeats 40000000 in
theorem rmm1 (l : Launch) (Z : State) (a0 : Array Value) (hw : ∀ d ∈ tables_1, d.before a0 Z = true) (ws : List Jvm.Cond) (a1 : Addr) (s0_PERMIT : Addr) (s1_DENY : Addr) (s4_NOT_APPLICABLE : Addr) (s5_INDETERMINATE_DP : Addr) (s6_INDETERMINATE_D : Addr) (s7_INDETERMINATE_P : Addr) (h0 : Heap) (n0 : Nat) (Z0 : n0 ≤ h0.size) (E_a1 : Exa Z h0 a1 "com/example/verdikt/verdikt/model/ExtendedDecision") (F_a1_ordinal : Fld Z h0 a1 "java/lang/Enum" "ordinal" "I" (.int (1 : Int32))) (S_ExtendedDecision_PERMIT : Sta Z h0 "com/example/verdikt/verdikt/model/ExtendedDecision" "PERMIT" "Lcom/example/verdikt/verdikt/model/ExtendedDecision;" (.ref s0_PERMIT)) (S_ExtendedDecision_DENY : Sta Z h0 "com/example/verdikt/verdikt/model/ExtendedDecision" "DENY" "Lcom/example/verdikt/verdikt/model/ExtendedDecision;" (.ref s1_DENY)) (S_ExtendedDecision_NOT_APPLICABLE : Sta Z h0 "com/example/verdikt/verdikt/model/ExtendedDecision" "NOT_APPLICABLE" "Lcom/example/verdikt/verdikt/model/ExtendedDecision;" (.ref s4_NOT_APPLICABLE)) (S_ExtendedDecision_INDETERMINATE_DP : Sta Z h0 "com/example/verdikt/verdikt/model/ExtendedDecision" "INDETERMINATE_DP" "Lcom/example/verdikt/verdikt/model/ExtendedDecision;" (.ref s5_INDETERMINATE_DP)) (S_ExtendedDecision_INDETERMINATE_D : Sta Z h0 "com/example/verdikt/verdikt/model/ExtendedDecision" "INDETERMINATE_D" "Lcom/example/verdikt/verdikt/model/ExtendedDecision;" (.ref s6_INDETERMINATE_D)) (S_ExtendedDecision_INDETERMINATE_P : Sta Z h0 "com/example/verdikt/verdikt/model/ExtendedDecision" "INDETERMINATE_P" "Lcom/example/verdikt/verdikt/model/ExtendedDecision;" (.ref s7_INDETERMINATE_P)) :
    MetFree l (⟨"com/example/verdikt/verdikt/model/ExtendedDecision", "mirror", "()Lcom/example/verdikt/verdikt/model/ExtendedDecision;"⟩ : MethodName) (head1 (Jvm.Cond.code (⟨"com/example/verdikt/verdikt/model/ExtendedDecision", "mirror", "()Lcom/example/verdikt/verdikt/model/ExtendedDecision;"⟩ : MethodName) prog_41_method_5_code 2 (some (.object "com/example/verdikt/verdikt/model/ExtendedDecision")) :: ws) ({ frames := 1, cells := 0, slots := 0, locals := 12 } : Room)) (fun a U => a = #[(.ref a1)] ∧ Z.Warmed39 U.vm ∧ U.heap = h0) (fun _ _ _ _ _ => True) (fun _ U o U' => ∃ v L, o = .returned v ∧ Qm1 Z a1 s0_PERMIT s1_DENY s4_NOT_APPLICABLE s5_INDETERMINATE_DP s6_INDETERMINATE_D s7_INDETERMINATE_P h0 n0 v U'.heap L ∧ FrameEnd U o U' L ({ frames := 1, cells := 0, slots := 0, locals := 12 } : Room).cells ({ frames := 1, cells := 0, slots := 0, locals := 12 } : Room).slots) := by
  refine MetFree.of_bodySF (plainFor_of_name pn_m1) hisR ?_
  intro p e s m args below meth c s₁ Bd hml0 hP hK
  obtain ⟨rfl, hZ, hh⟩ := hP
  have hx := Bd.exec
  have hby := Bd.bytes
  have hml : c.maxLocals = 2 := hml0
  have hown : s.vm.findClass "com/example/verdikt/verdikt/model/ExtendedDecision" = some m.cls := findClass_of_methodNamed Bd.named
  have hnm := (name_of_methodNamed Bd.named Bd.method).1
  have X0 : Stand p l e ({ frames := 1, cells := 0, slots := 0, locals := 12 } : Room) s m #[(.ref a1)] below meth c s₁ [] 0 0 := Stand.of_body Bd
  have e0 : s₁.heap = h0 := by rw [← hh, Bd.state]; rfl
  have N0 := Fr.nil n0
  have pre0 : ∀ t, Steps p.tables e below (s₁.setTop (mkF m 0 #[.val (.ref a1), .unset] [])) t → Steps p.tables e below (s₁.setTop (entryFrame m #[(.ref a1)] 2)) t := fun t k => castTop (ef_m1 m a1) k
  refine own_step (Q := fun o U' => ∃ v L, o = .returned v ∧ Qm1 Z a1 s0_PERMIT s1_DENY s4_NOT_APPLICABLE s5_INDETERMINATE_DP s6_INDETERMINATE_D s7_INDETERMINATE_P h0 n0 v U'.heap L ∧ FrameEnd s o U' L ({ frames := 1, cells := 0, slots := 0, locals := 12 } : Room).cells ({ frames := 1, cells := 0, slots := 0, locals := 12 } : Room).slots) pre0 ?_
  obtain ⟨cq1, kq1, q1a, q1b, q1c⟩ := isOf hZ e0 E_a1
  obtain ⟨_, _, ⟨T1, L1, k1, n1⟩, -, X1, ⟨Lc1, hQ1, l1, y1, z1⟩, st1⟩ := X0.virtualBackUp hx (x := (⟨"com/example/verdikt/verdikt/model/ExtendedDecision", "ordinal", "()I"⟩ : MethodName)) (y := (⟨"java/lang/Enum", "ordinal", "()I"⟩ : MethodName)) (owner := "java/lang/Enum") hown (mvT hZ (hw _ (List.mem_of_getElem? (i := 13) rfl))) (mvT hZ (hw _ (List.mem_of_getElem? (i := 14) rfl))) (mvT hZ (hw _ (List.mem_of_getElem? (i := 15) rfl))) (by decide) (mvT hZ (hw _ (List.mem_of_getElem? (i := 17) rfl))) (mvT hZ (hw _ (List.mem_of_getElem? (i := 16) rfl))) (backOf (W := 0) (rm3 l Z a0 hw [] a1 (1 : Int32) h0 n0 Z0 F_a1_ordinal) hZ (hw _ (List.mem_of_getElem? (i := 19) rfl)) (hw _ (List.mem_of_getElem? (i := 18) rfl)) (by decide) (by decide)) q1a q1c (g := (mkF m 1 #[.val (.ref a1), .unset] [(.ref a1)])) rfl (by rw [hml]; rfl) (Steps.refl _) (argsL := []) (rest := []) (lenOf pd_0 rfl) rfl (by show 2 * 0 + _ ≤ _; exact Nat.le_of_eq rfl) (hb hby d2_1) (fun _ _ => ⟨rfl, e0, (by decide : 0 + 0 ≤ _), (by decide : 0 + 0 ≤ _)⟩)
  dsimp only [Pt.U, Pt.locs, Pt.cells, Pt.slots] at X1 l1 y1 z1 st1 hQ1
  subst l1 y1 z1
  obtain ⟨hv1, N1q, e1⟩ := hQ1
  rw [show f3 a1 (1 : Int32) = (1 : Int32) from rfl] at hv1
  subst hv1
  have N1 := Fr.app N0 N1q
  obtain ⟨T2, X2, e2, st2⟩ := getS X1 hx hZ (host := "") hown (hw _ (List.mem_of_getElem? (i := 24) rfl)) Via.refl e1 S_ExtendedDecision_PERMIT (g := (mkF m 47 #[.val (.ref a1), .unset] [])) rfl (hb hby d2_47)
  obtain ⟨fs, hr, hrun, hended, hW, hsame⟩ := X2.leave (v := some (.ref s0_PERMIT)) (fun h => by rw [Bd.returns] at h; cases h)
  refine ⟨_, _, ?_, hrun, hended, _, _, rfl, ?_, ⟨_, rfl⟩, hW, hsame.mono (by decide) (by decide)⟩
  · show Steps p.tables e below (s₁.setTop (mkF m 0 #[.val (.ref a1), .unset] [])) _
    refine XS.aloadN X0.here hx rfl (hb hby d2_0) rfl rfl ?_
    show Steps p.tables e below (s₁.setTop (mkF m 1 #[.val (.ref a1), .unset] [(.ref a1)])) _
    refine st1.trans ?_
    show Steps p.tables e below (T1.setTop (mkF m 4 #[.val (.ref a1), .unset] [(.int (1 : Int32))])) _
    refine XS.tswIn X1.here hx rfl (pc0 := 4) (pc' := 47) rfl (hb hby d2_4) rfl (by decide) (o := 43) (by decide) (by decide) (by decide) ?_
    show Steps p.tables e below (T1.setTop (mkF m 47 #[.val (.ref a1), .unset] [])) _
    refine st2 _ ?_
    show Steps p.tables e below (T2.setTop (mkF m 50 #[.val (.ref a1), .unset] [(.ref s0_PERMIT)])) _
    refine XS.astoreN X2.here hx rfl (hb hby d2_50) rfl rfl (l' := #[.val (.ref a1), .val (.ref s0_PERMIT)]) rfl ?_
    show Steps p.tables e below (T2.setTop (mkF m 51 #[.val (.ref a1), .val (.ref s0_PERMIT)] [])) _
    refine XS.goto X2.here hx rfl (pc0 := 51) (pc' := 70) rfl (hb hby d2_51) (by decide) (by decide) ?_
    show Steps p.tables e below (T2.setTop (mkF m 70 #[.val (.ref a1), .val (.ref s0_PERMIT)] [])) _
    refine XS.aloadN X2.here hx rfl (hb hby d2_70) rfl rfl ?_
    show Steps p.tables e below (T2.setTop (mkF m 71 #[.val (.ref a1), .val (.ref s0_PERMIT)] [(.ref s0_PERMIT)])) _
    jvm_step X2.here [X2.here.top, hx, (hb hby d2_71), X2.method', Bd.returns, Value.isRef, FieldType.isReference]
    first | (intro acts; rw [hr _ acts rfl rfl rfl]) | rw [hr _ _ rfl rfl rfl]
    exact Steps.refl _
  · show Qm1 Z a1 s0_PERMIT s1_DENY s4_NOT_APPLICABLE s5_INDETERMINATE_DP s6_INDETERMINATE_D s7_INDETERMINATE_P h0 n0 _ T2.heap _
    rw [e2]
    have hf : fm1 a1 s0_PERMIT s1_DENY s4_NOT_APPLICABLE s5_INDETERMINATE_DP s6_INDETERMINATE_D s7_INDETERMINATE_P = s0_PERMIT := rfl
    exact ⟨by rw [hf], N1, rfl⟩
theorem d2_68 : decode prog_41_method_5_code 68 = .ok (.aload_n 0, 1) := by decide +kernel
theorem d2_69 : decode prog_41_method_5_code 69 = .ok (.astore_n 1, 1) := by decide +kernel
theorem pn_m2 : plainName "com/example/verdikt/verdikt/model/ExtendedDecision" = true := by first | (simp [plainName, overriddenIn]; done) | decide +kernel
theorem ef_m2 (m : MethodId) (a1 : Addr) : entryFrame m #[(.ref a1)] 2 = mkF m 0 #[.val (.ref a1), .unset] [] := by first | (simp [entryFrame, mkF, argsToLocals, Value.category]; done) | rfl
def Qm2 (Z : State) (a1 : Addr) (s0_PERMIT : Addr) (s1_DENY : Addr) (s4_NOT_APPLICABLE : Addr) (s5_INDETERMINATE_DP : Addr) (s6_INDETERMINATE_D : Addr) (s7_INDETERMINATE_P : Addr) (h0 : Heap) (n0 : Nat) (v : Option Value) (h : Heap) (L : List Loc) : Prop := v = some (.ref (fm2 a1 s0_PERMIT s1_DENY s4_NOT_APPLICABLE s5_INDETERMINATE_DP s6_INDETERMINATE_D s7_INDETERMINATE_P)) ∧ Fr n0 L ∧ h = h0
set_option maxRecDepth 65536 in
set_option maxHeartbeats 40000000 in
theorem rmm2 (l : Launch) (Z : State) (a0 : Array Value) (hw : ∀ d ∈ tables_1, d.before a0 Z = true) (ws : List Jvm.Cond) (a1 : Addr) (s0_PERMIT : Addr) (s1_DENY : Addr) (s4_NOT_APPLICABLE : Addr) (s5_INDETERMINATE_DP : Addr) (s6_INDETERMINATE_D : Addr) (s7_INDETERMINATE_P : Addr) (h0 : Heap) (n0 : Nat) (Z0 : n0 ≤ h0.size) (E_a1 : Exa Z h0 a1 "com/example/verdikt/verdikt/model/ExtendedDecision") (F_a1_ordinal : Fld Z h0 a1 "java/lang/Enum" "ordinal" "I" (.int (2 : Int32))) (S_ExtendedDecision_PERMIT : Sta Z h0 "com/example/verdikt/verdikt/model/ExtendedDecision" "PERMIT" "Lcom/example/verdikt/verdikt/model/ExtendedDecision;" (.ref s0_PERMIT)) (S_ExtendedDecision_DENY : Sta Z h0 "com/example/verdikt/verdikt/model/ExtendedDecision" "DENY" "Lcom/example/verdikt/verdikt/model/ExtendedDecision;" (.ref s1_DENY)) (S_ExtendedDecision_NOT_APPLICABLE : Sta Z h0 "com/example/verdikt/verdikt/model/ExtendedDecision" "NOT_APPLICABLE" "Lcom/example/verdikt/verdikt/model/ExtendedDecision;" (.ref s4_NOT_APPLICABLE)) (S_ExtendedDecision_INDETERMINATE_DP : Sta Z h0 "com/example/verdikt/verdikt/model/ExtendedDecision" "INDETERMINATE_DP" "Lcom/example/verdikt/verdikt/model/ExtendedDecision;" (.ref s5_INDETERMINATE_DP)) (S_ExtendedDecision_INDETERMINATE_D : Sta Z h0 "com/example/verdikt/verdikt/model/ExtendedDecision" "INDETERMINATE_D" "Lcom/example/verdikt/verdikt/model/ExtendedDecision;" (.ref s6_INDETERMINATE_D)) (S_ExtendedDecision_INDETERMINATE_P : Sta Z h0 "com/example/verdikt/verdikt/model/ExtendedDecision" "INDETERMINATE_P" "Lcom/example/verdikt/verdikt/model/ExtendedDecision;" (.ref s7_INDETERMINATE_P)) :
    MetFree l (⟨"com/example/verdikt/verdikt/model/ExtendedDecision", "mirror", "()Lcom/example/verdikt/verdikt/model/ExtendedDecision;"⟩ : MethodName) (head1 (Jvm.Cond.code (⟨"com/example/verdikt/verdikt/model/ExtendedDecision", "mirror", "()Lcom/example/verdikt/verdikt/model/ExtendedDecision;"⟩ : MethodName) prog_41_method_5_code 2 (some (.object "com/example/verdikt/verdikt/model/ExtendedDecision")) :: ws) ({ frames := 1, cells := 0, slots := 0, locals := 12 } : Room)) (fun a U => a = #[(.ref a1)] ∧ Z.Warmed39 U.vm ∧ U.heap = h0) (fun _ _ _ _ _ => True) (fun _ U o U' => ∃ v L, o = .returned v ∧ Qm2 Z a1 s0_PERMIT s1_DENY s4_NOT_APPLICABLE s5_INDETERMINATE_DP s6_INDETERMINATE_D s7_INDETERMINATE_P h0 n0 v U'.heap L ∧ FrameEnd U o U' L ({ frames := 1, cells := 0, slots := 0, locals := 12 } : Room).cells ({ frames := 1, cells := 0, slots := 0, locals := 12 } : Room).slots) := by
  refine MetFree.of_bodySF (plainFor_of_name pn_m2) hisR ?_
  intro p e s m args below meth c s₁ Bd hml0 hP hK
  obtain ⟨rfl, hZ, hh⟩ := hP
  have hx := Bd.exec
  have hby := Bd.bytes
  have hml : c.maxLocals = 2 := hml0
  have hown : s.vm.findClass "com/example/verdikt/verdikt/model/ExtendedDecision" = some m.cls := findClass_of_methodNamed Bd.named
  have hnm := (name_of_methodNamed Bd.named Bd.method).1
  have X0 : Stand p l e ({ frames := 1, cells := 0, slots := 0, locals := 12 } : Room) s m #[(.ref a1)] below meth c s₁ [] 0 0 := Stand.of_body Bd
  have e0 : s₁.heap = h0 := by rw [← hh, Bd.state]; rfl
  have N0 := Fr.nil n0
  have pre0 : ∀ t, Steps p.tables e below (s₁.setTop (mkF m 0 #[.val (.ref a1), .unset] [])) t → Steps p.tables e below (s₁.setTop (entryFrame m #[(.ref a1)] 2)) t := fun t k => castTop (ef_m2 m a1) k
  refine own_step (Q := fun o U' => ∃ v L, o = .returned v ∧ Qm2 Z a1 s0_PERMIT s1_DENY s4_NOT_APPLICABLE s5_INDETERMINATE_DP s6_INDETERMINATE_D s7_INDETERMINATE_P h0 n0 v U'.heap L ∧ FrameEnd s o U' L ({ frames := 1, cells := 0, slots := 0, locals := 12 } : Room).cells ({ frames := 1, cells := 0, slots := 0, locals := 12 } : Room).slots) pre0 ?_
  obtain ⟨cq1, kq1, q1a, q1b, q1c⟩ := isOf hZ e0 E_a1
  obtain ⟨_, _, ⟨T1, L1, k1, n1⟩, -, X1, ⟨Lc1, hQ1, l1, y1, z1⟩, st1⟩ := X0.virtualBackUp hx (x := (⟨"com/example/verdikt/verdikt/model/ExtendedDecision", "ordinal", "()I"⟩ : MethodName)) (y := (⟨"java/lang/Enum", "ordinal", "()I"⟩ : MethodName)) (owner := "java/lang/Enum") hown (mvT hZ (hw _ (List.mem_of_getElem? (i := 13) rfl))) (mvT hZ (hw _ (List.mem_of_getElem? (i := 14) rfl))) (mvT hZ (hw _ (List.mem_of_getElem? (i := 15) rfl))) (by decide) (mvT hZ (hw _ (List.mem_of_getElem? (i := 17) rfl))) (mvT hZ (hw _ (List.mem_of_getElem? (i := 16) rfl))) (backOf (W := 0) (rm3 l Z a0 hw [] a1 (2 : Int32) h0 n0 Z0 F_a1_ordinal) hZ (hw _ (List.mem_of_getElem? (i := 19) rfl)) (hw _ (List.mem_of_getElem? (i := 18) rfl)) (by decide) (by decide)) q1a q1c (g := (mkF m 1 #[.val (.ref a1), .unset] [(.ref a1)])) rfl (by rw [hml]; rfl) (Steps.refl _) (argsL := []) (rest := []) (lenOf pd_0 rfl) rfl (by show 2 * 0 + _ ≤ _; exact Nat.le_of_eq rfl) (hb hby d2_1) (fun _ _ => ⟨rfl, e0, (by decide : 0 + 0 ≤ _), (by decide : 0 + 0 ≤ _)⟩)
  dsimp only [Pt.U, Pt.locs, Pt.cells, Pt.slots] at X1 l1 y1 z1 st1 hQ1
  subst l1 y1 z1
  obtain ⟨hv1, N1q, e1⟩ := hQ1
  rw [show f3 a1 (2 : Int32) = (2 : Int32) from rfl] at hv1
  subst hv1
  have N1 := Fr.app N0 N1q
  obtain ⟨fs, hr, hrun, hended, hW, hsame⟩ := X1.leave (v := some (.ref a1)) (fun h => by rw [Bd.returns] at h; cases h)
  refine ⟨_, _, ?_, hrun, hended, _, _, rfl, ?_, ⟨_, rfl⟩, hW, hsame.mono (by decide) (by decide)⟩
  · show Steps p.tables e below (s₁.setTop (mkF m 0 #[.val (.ref a1), .unset] [])) _
    refine XS.aloadN X0.here hx rfl (hb hby d2_0) rfl rfl ?_
    show Steps p.tables e below (s₁.setTop (mkF m 1 #[.val (.ref a1), .unset] [(.ref a1)])) _
    refine st1.trans ?_
    show Steps p.tables e below (T1.setTop (mkF m 4 #[.val (.ref a1), .unset] [(.int (2 : Int32))])) _
    refine XS.tswIn X1.here hx rfl (pc0 := 4) (pc' := 68) rfl (hb hby d2_4) rfl (by decide) (o := 64) (by decide) (by decide) (by decide) ?_
    show Steps p.tables e below (T1.setTop (mkF m 68 #[.val (.ref a1), .unset] [])) _
    refine XS.aloadN X1.here hx rfl (hb hby d2_68) rfl rfl ?_
    show Steps p.tables e below (T1.setTop (mkF m 69 #[.val (.ref a1), .unset] [(.ref a1)])) _
    refine XS.astoreN X1.here hx rfl (hb hby d2_69) rfl rfl (l' := #[.val (.ref a1), .val (.ref a1)]) rfl ?_
    show Steps p.tables e below (T1.setTop (mkF m 70 #[.val (.ref a1), .val (.ref a1)] [])) _
    refine XS.aloadN X1.here hx rfl (hb hby d2_70) rfl rfl ?_
    show Steps p.tables e below (T1.setTop (mkF m 71 #[.val (.ref a1), .val (.ref a1)] [(.ref a1)])) _
    jvm_step X1.here [X1.here.top, hx, (hb hby d2_71), X1.method', Bd.returns, Value.isRef, FieldType.isReference]
    first | (intro acts; rw [hr _ acts rfl rfl rfl]) | rw [hr _ _ rfl rfl rfl]
    exact Steps.refl _
  · show Qm2 Z a1 s0_PERMIT s1_DENY s4_NOT_APPLICABLE s5_INDETERMINATE_DP s6_INDETERMINATE_D s7_INDETERMINATE_P h0 n0 _ T1.heap _
    rw [e1]
    have hf : fm2 a1 s0_PERMIT s1_DENY s4_NOT_APPLICABLE s5_INDETERMINATE_DP s6_INDETERMINATE_D s7_INDETERMINATE_P = a1 := rfl
    exact ⟨by rw [hf], N1, rfl⟩
theorem d2_54 : decode prog_41_method_5_code 54 = .ok (.getstatic 16, 3) := by decide +kernel
theorem d2_57 : decode prog_41_method_5_code 57 = .ok (.astore_n 1, 1) := by decide +kernel
theorem d2_58 : decode prog_41_method_5_code 58 = .ok (.goto 12, 3) := by decide +kernel
theorem pn_m3 : plainName "com/example/verdikt/verdikt/model/ExtendedDecision" = true := by first | (simp [plainName, overriddenIn]; done) | decide +kernel
theorem ef_m3 (m : MethodId) (a1 : Addr) : entryFrame m #[(.ref a1)] 2 = mkF m 0 #[.val (.ref a1), .unset] [] := by first | (simp [entryFrame, mkF, argsToLocals, Value.category]; done) | rfl
def Qm3 (Z : State) (a1 : Addr) (s0_PERMIT : Addr) (s1_DENY : Addr) (s4_NOT_APPLICABLE : Addr) (s5_INDETERMINATE_DP : Addr) (s6_INDETERMINATE_D : Addr) (s7_INDETERMINATE_P : Addr) (h0 : Heap) (n0 : Nat) (v : Option Value) (h : Heap) (L : List Loc) : Prop := v = some (.ref (fm3 a1 s0_PERMIT s1_DENY s4_NOT_APPLICABLE s5_INDETERMINATE_DP s6_INDETERMINATE_D s7_INDETERMINATE_P)) ∧ Fr n0 L ∧ h = h0
set_option maxRecDepth 65536 in
set_option maxHeartbeats 40000000 in
theorem rmm3 (l : Launch) (Z : State) (a0 : Array Value) (hw : ∀ d ∈ tables_1, d.before a0 Z = true) (ws : List Jvm.Cond) (a1 : Addr) (s0_PERMIT : Addr) (s1_DENY : Addr) (s4_NOT_APPLICABLE : Addr) (s5_INDETERMINATE_DP : Addr) (s6_INDETERMINATE_D : Addr) (s7_INDETERMINATE_P : Addr) (h0 : Heap) (n0 : Nat) (Z0 : n0 ≤ h0.size) (E_a1 : Exa Z h0 a1 "com/example/verdikt/verdikt/model/ExtendedDecision") (F_a1_ordinal : Fld Z h0 a1 "java/lang/Enum" "ordinal" "I" (.int (3 : Int32))) (S_ExtendedDecision_PERMIT : Sta Z h0 "com/example/verdikt/verdikt/model/ExtendedDecision" "PERMIT" "Lcom/example/verdikt/verdikt/model/ExtendedDecision;" (.ref s0_PERMIT)) (S_ExtendedDecision_DENY : Sta Z h0 "com/example/verdikt/verdikt/model/ExtendedDecision" "DENY" "Lcom/example/verdikt/verdikt/model/ExtendedDecision;" (.ref s1_DENY)) (S_ExtendedDecision_NOT_APPLICABLE : Sta Z h0 "com/example/verdikt/verdikt/model/ExtendedDecision" "NOT_APPLICABLE" "Lcom/example/verdikt/verdikt/model/ExtendedDecision;" (.ref s4_NOT_APPLICABLE)) (S_ExtendedDecision_INDETERMINATE_DP : Sta Z h0 "com/example/verdikt/verdikt/model/ExtendedDecision" "INDETERMINATE_DP" "Lcom/example/verdikt/verdikt/model/ExtendedDecision;" (.ref s5_INDETERMINATE_DP)) (S_ExtendedDecision_INDETERMINATE_D : Sta Z h0 "com/example/verdikt/verdikt/model/ExtendedDecision" "INDETERMINATE_D" "Lcom/example/verdikt/verdikt/model/ExtendedDecision;" (.ref s6_INDETERMINATE_D)) (S_ExtendedDecision_INDETERMINATE_P : Sta Z h0 "com/example/verdikt/verdikt/model/ExtendedDecision" "INDETERMINATE_P" "Lcom/example/verdikt/verdikt/model/ExtendedDecision;" (.ref s7_INDETERMINATE_P)) :
    MetFree l (⟨"com/example/verdikt/verdikt/model/ExtendedDecision", "mirror", "()Lcom/example/verdikt/verdikt/model/ExtendedDecision;"⟩ : MethodName) (head1 (Jvm.Cond.code (⟨"com/example/verdikt/verdikt/model/ExtendedDecision", "mirror", "()Lcom/example/verdikt/verdikt/model/ExtendedDecision;"⟩ : MethodName) prog_41_method_5_code 2 (some (.object "com/example/verdikt/verdikt/model/ExtendedDecision")) :: ws) ({ frames := 1, cells := 0, slots := 0, locals := 12 } : Room)) (fun a U => a = #[(.ref a1)] ∧ Z.Warmed39 U.vm ∧ U.heap = h0) (fun _ _ _ _ _ => True) (fun _ U o U' => ∃ v L, o = .returned v ∧ Qm3 Z a1 s0_PERMIT s1_DENY s4_NOT_APPLICABLE s5_INDETERMINATE_DP s6_INDETERMINATE_D s7_INDETERMINATE_P h0 n0 v U'.heap L ∧ FrameEnd U o U' L ({ frames := 1, cells := 0, slots := 0, locals := 12 } : Room).cells ({ frames := 1, cells := 0, slots := 0, locals := 12 } : Room).slots) := by
  refine MetFree.of_bodySF (plainFor_of_name pn_m3) hisR ?_
  intro p e s m args below meth c s₁ Bd hml0 hP hK
  obtain ⟨rfl, hZ, hh⟩ := hP
  have hx := Bd.exec
  have hby := Bd.bytes
  have hml : c.maxLocals = 2 := hml0
  have hown : s.vm.findClass "com/example/verdikt/verdikt/model/ExtendedDecision" = some m.cls := findClass_of_methodNamed Bd.named
  have hnm := (name_of_methodNamed Bd.named Bd.method).1
  have X0 : Stand p l e ({ frames := 1, cells := 0, slots := 0, locals := 12 } : Room) s m #[(.ref a1)] below meth c s₁ [] 0 0 := Stand.of_body Bd
  have e0 : s₁.heap = h0 := by rw [← hh, Bd.state]; rfl
  have N0 := Fr.nil n0
  have pre0 : ∀ t, Steps p.tables e below (s₁.setTop (mkF m 0 #[.val (.ref a1), .unset] [])) t → Steps p.tables e below (s₁.setTop (entryFrame m #[(.ref a1)] 2)) t := fun t k => castTop (ef_m3 m a1) k
  refine own_step (Q := fun o U' => ∃ v L, o = .returned v ∧ Qm3 Z a1 s0_PERMIT s1_DENY s4_NOT_APPLICABLE s5_INDETERMINATE_DP s6_INDETERMINATE_D s7_INDETERMINATE_P h0 n0 v U'.heap L ∧ FrameEnd s o U' L ({ frames := 1, cells := 0, slots := 0, locals := 12 } : Room).cells ({ frames := 1, cells := 0, slots := 0, locals := 12 } : Room).slots) pre0 ?_
  obtain ⟨cq1, kq1, q1a, q1b, q1c⟩ := isOf hZ e0 E_a1
  obtain ⟨_, _, ⟨T1, L1, k1, n1⟩, -, X1, ⟨Lc1, hQ1, l1, y1, z1⟩, st1⟩ := X0.virtualBackUp hx (x := (⟨"com/example/verdikt/verdikt/model/ExtendedDecision", "ordinal", "()I"⟩ : MethodName)) (y := (⟨"java/lang/Enum", "ordinal", "()I"⟩ : MethodName)) (owner := "java/lang/Enum") hown (mvT hZ (hw _ (List.mem_of_getElem? (i := 13) rfl))) (mvT hZ (hw _ (List.mem_of_getElem? (i := 14) rfl))) (mvT hZ (hw _ (List.mem_of_getElem? (i := 15) rfl))) (by decide) (mvT hZ (hw _ (List.mem_of_getElem? (i := 17) rfl))) (mvT hZ (hw _ (List.mem_of_getElem? (i := 16) rfl))) (backOf (W := 0) (rm3 l Z a0 hw [] a1 (3 : Int32) h0 n0 Z0 F_a1_ordinal) hZ (hw _ (List.mem_of_getElem? (i := 19) rfl)) (hw _ (List.mem_of_getElem? (i := 18) rfl)) (by decide) (by decide)) q1a q1c (g := (mkF m 1 #[.val (.ref a1), .unset] [(.ref a1)])) rfl (by rw [hml]; rfl) (Steps.refl _) (argsL := []) (rest := []) (lenOf pd_0 rfl) rfl (by show 2 * 0 + _ ≤ _; exact Nat.le_of_eq rfl) (hb hby d2_1) (fun _ _ => ⟨rfl, e0, (by decide : 0 + 0 ≤ _), (by decide : 0 + 0 ≤ _)⟩)
  dsimp only [Pt.U, Pt.locs, Pt.cells, Pt.slots] at X1 l1 y1 z1 st1 hQ1
  subst l1 y1 z1
  obtain ⟨hv1, N1q, e1⟩ := hQ1
  rw [show f3 a1 (3 : Int32) = (3 : Int32) from rfl] at hv1
  subst hv1
  have N1 := Fr.app N0 N1q
  obtain ⟨T2, X2, e2, st2⟩ := getS X1 hx hZ (host := "") hown (hw _ (List.mem_of_getElem? (i := 46) rfl)) Via.refl e1 S_ExtendedDecision_INDETERMINATE_P (g := (mkF m 54 #[.val (.ref a1), .unset] [])) rfl (hb hby d2_54)
  obtain ⟨fs, hr, hrun, hended, hW, hsame⟩ := X2.leave (v := some (.ref s7_INDETERMINATE_P)) (fun h => by rw [Bd.returns] at h; cases h)
  refine ⟨_, _, ?_, hrun, hended, _, _, rfl, ?_, ⟨_, rfl⟩, hW, hsame.mono (by decide) (by decide)⟩
  · show Steps p.tables e below (s₁.setTop (mkF m 0 #[.val (.ref a1), .unset] [])) _
    refine XS.aloadN X0.here hx rfl (hb hby d2_0) rfl rfl ?_
    show Steps p.tables e below (s₁.setTop (mkF m 1 #[.val (.ref a1), .unset] [(.ref a1)])) _
    refine st1.trans ?_
    show Steps p.tables e below (T1.setTop (mkF m 4 #[.val (.ref a1), .unset] [(.int (3 : Int32))])) _
    refine XS.tswIn X1.here hx rfl (pc0 := 4) (pc' := 54) rfl (hb hby d2_4) rfl (by decide) (o := 50) (by decide) (by decide) (by decide) ?_
    show Steps p.tables e below (T1.setTop (mkF m 54 #[.val (.ref a1), .unset] [])) _
    refine st2 _ ?_
    show Steps p.tables e below (T2.setTop (mkF m 57 #[.val (.ref a1), .unset] [(.ref s7_INDETERMINATE_P)])) _
    refine XS.astoreN X2.here hx rfl (hb hby d2_57) rfl rfl (l' := #[.val (.ref a1), .val (.ref s7_INDETERMINATE_P)]) rfl ?_
    show Steps p.tables e below (T2.setTop (mkF m 58 #[.val (.ref a1), .val (.ref s7_INDETERMINATE_P)] [])) _
    refine XS.goto X2.here hx rfl (pc0 := 58) (pc' := 70) rfl (hb hby d2_58) (by decide) (by decide) ?_
    show Steps p.tables e below (T2.setTop (mkF m 70 #[.val (.ref a1), .val (.ref s7_INDETERMINATE_P)] [])) _
    refine XS.aloadN X2.here hx rfl (hb hby d2_70) rfl rfl ?_
    show Steps p.tables e below (T2.setTop (mkF m 71 #[.val (.ref a1), .val (.ref s7_INDETERMINATE_P)] [(.ref s7_INDETERMINATE_P)])) _
    jvm_step X2.here [X2.here.top, hx, (hb hby d2_71), X2.method', Bd.returns, Value.isRef, FieldType.isReference]
    first | (intro acts; rw [hr _ acts rfl rfl rfl]) | rw [hr _ _ rfl rfl rfl]
    exact Steps.refl _
  · show Qm3 Z a1 s0_PERMIT s1_DENY s4_NOT_APPLICABLE s5_INDETERMINATE_DP s6_INDETERMINATE_D s7_INDETERMINATE_P h0 n0 _ T2.heap _
    rw [e2]
    have hf : fm3 a1 s0_PERMIT s1_DENY s4_NOT_APPLICABLE s5_INDETERMINATE_DP s6_INDETERMINATE_D s7_INDETERMINATE_P = s7_INDETERMINATE_P := rfl
    exact ⟨by rw [hf], N1, rfl⟩
theorem d2_61 : decode prog_41_method_5_code 61 = .ok (.getstatic 13, 3) := by decide +kernel
theorem d2_64 : decode prog_41_method_5_code 64 = .ok (.astore_n 1, 1) := by decide +kernel
theorem d2_65 : decode prog_41_method_5_code 65 = .ok (.goto 5, 3) := by decide +kernel
theorem pn_m4 : plainName "com/example/verdikt/verdikt/model/ExtendedDecision" = true := by first | (simp [plainName, overriddenIn]; done) | decide +kernel
theorem ef_m4 (m : MethodId) (a1 : Addr) : entryFrame m #[(.ref a1)] 2 = mkF m 0 #[.val (.ref a1), .unset] [] := by first | (simp [entryFrame, mkF, argsToLocals, Value.category]; done) | rfl
def Qm4 (Z : State) (a1 : Addr) (s0_PERMIT : Addr) (s1_DENY : Addr) (s4_NOT_APPLICABLE : Addr) (s5_INDETERMINATE_DP : Addr) (s6_INDETERMINATE_D : Addr) (s7_INDETERMINATE_P : Addr) (h0 : Heap) (n0 : Nat) (v : Option Value) (h : Heap) (L : List Loc) : Prop := v = some (.ref (fm4 a1 s0_PERMIT s1_DENY s4_NOT_APPLICABLE s5_INDETERMINATE_DP s6_INDETERMINATE_D s7_INDETERMINATE_P)) ∧ Fr n0 L ∧ h = h0
set_option maxRecDepth 65536 in
set_option maxHeartbeats 40000000 in
theorem rmm4 (l : Launch) (Z : State) (a0 : Array Value) (hw : ∀ d ∈ tables_1, d.before a0 Z = true) (ws : List Jvm.Cond) (a1 : Addr) (s0_PERMIT : Addr) (s1_DENY : Addr) (s4_NOT_APPLICABLE : Addr) (s5_INDETERMINATE_DP : Addr) (s6_INDETERMINATE_D : Addr) (s7_INDETERMINATE_P : Addr) (h0 : Heap) (n0 : Nat) (Z0 : n0 ≤ h0.size) (E_a1 : Exa Z h0 a1 "com/example/verdikt/verdikt/model/ExtendedDecision") (F_a1_ordinal : Fld Z h0 a1 "java/lang/Enum" "ordinal" "I" (.int (4 : Int32))) (S_ExtendedDecision_PERMIT : Sta Z h0 "com/example/verdikt/verdikt/model/ExtendedDecision" "PERMIT" "Lcom/example/verdikt/verdikt/model/ExtendedDecision;" (.ref s0_PERMIT)) (S_ExtendedDecision_DENY : Sta Z h0 "com/example/verdikt/verdikt/model/ExtendedDecision" "DENY" "Lcom/example/verdikt/verdikt/model/ExtendedDecision;" (.ref s1_DENY)) (S_ExtendedDecision_NOT_APPLICABLE : Sta Z h0 "com/example/verdikt/verdikt/model/ExtendedDecision" "NOT_APPLICABLE" "Lcom/example/verdikt/verdikt/model/ExtendedDecision;" (.ref s4_NOT_APPLICABLE)) (S_ExtendedDecision_INDETERMINATE_DP : Sta Z h0 "com/example/verdikt/verdikt/model/ExtendedDecision" "INDETERMINATE_DP" "Lcom/example/verdikt/verdikt/model/ExtendedDecision;" (.ref s5_INDETERMINATE_DP)) (S_ExtendedDecision_INDETERMINATE_D : Sta Z h0 "com/example/verdikt/verdikt/model/ExtendedDecision" "INDETERMINATE_D" "Lcom/example/verdikt/verdikt/model/ExtendedDecision;" (.ref s6_INDETERMINATE_D)) (S_ExtendedDecision_INDETERMINATE_P : Sta Z h0 "com/example/verdikt/verdikt/model/ExtendedDecision" "INDETERMINATE_P" "Lcom/example/verdikt/verdikt/model/ExtendedDecision;" (.ref s7_INDETERMINATE_P)) :
    MetFree l (⟨"com/example/verdikt/verdikt/model/ExtendedDecision", "mirror", "()Lcom/example/verdikt/verdikt/model/ExtendedDecision;"⟩ : MethodName) (head1 (Jvm.Cond.code (⟨"com/example/verdikt/verdikt/model/ExtendedDecision", "mirror", "()Lcom/example/verdikt/verdikt/model/ExtendedDecision;"⟩ : MethodName) prog_41_method_5_code 2 (some (.object "com/example/verdikt/verdikt/model/ExtendedDecision")) :: ws) ({ frames := 1, cells := 0, slots := 0, locals := 12 } : Room)) (fun a U => a = #[(.ref a1)] ∧ Z.Warmed39 U.vm ∧ U.heap = h0) (fun _ _ _ _ _ => True) (fun _ U o U' => ∃ v L, o = .returned v ∧ Qm4 Z a1 s0_PERMIT s1_DENY s4_NOT_APPLICABLE s5_INDETERMINATE_DP s6_INDETERMINATE_D s7_INDETERMINATE_P h0 n0 v U'.heap L ∧ FrameEnd U o U' L ({ frames := 1, cells := 0, slots := 0, locals := 12 } : Room).cells ({ frames := 1, cells := 0, slots := 0, locals := 12 } : Room).slots) := by
  refine MetFree.of_bodySF (plainFor_of_name pn_m4) hisR ?_
  intro p e s m args below meth c s₁ Bd hml0 hP hK
  obtain ⟨rfl, hZ, hh⟩ := hP
  have hx := Bd.exec
  have hby := Bd.bytes
  have hml : c.maxLocals = 2 := hml0
  have hown : s.vm.findClass "com/example/verdikt/verdikt/model/ExtendedDecision" = some m.cls := findClass_of_methodNamed Bd.named
  have hnm := (name_of_methodNamed Bd.named Bd.method).1
  have X0 : Stand p l e ({ frames := 1, cells := 0, slots := 0, locals := 12 } : Room) s m #[(.ref a1)] below meth c s₁ [] 0 0 := Stand.of_body Bd
  have e0 : s₁.heap = h0 := by rw [← hh, Bd.state]; rfl
  have N0 := Fr.nil n0
  have pre0 : ∀ t, Steps p.tables e below (s₁.setTop (mkF m 0 #[.val (.ref a1), .unset] [])) t → Steps p.tables e below (s₁.setTop (entryFrame m #[(.ref a1)] 2)) t := fun t k => castTop (ef_m4 m a1) k
  refine own_step (Q := fun o U' => ∃ v L, o = .returned v ∧ Qm4 Z a1 s0_PERMIT s1_DENY s4_NOT_APPLICABLE s5_INDETERMINATE_DP s6_INDETERMINATE_D s7_INDETERMINATE_P h0 n0 v U'.heap L ∧ FrameEnd s o U' L ({ frames := 1, cells := 0, slots := 0, locals := 12 } : Room).cells ({ frames := 1, cells := 0, slots := 0, locals := 12 } : Room).slots) pre0 ?_
  obtain ⟨cq1, kq1, q1a, q1b, q1c⟩ := isOf hZ e0 E_a1
  obtain ⟨_, _, ⟨T1, L1, k1, n1⟩, -, X1, ⟨Lc1, hQ1, l1, y1, z1⟩, st1⟩ := X0.virtualBackUp hx (x := (⟨"com/example/verdikt/verdikt/model/ExtendedDecision", "ordinal", "()I"⟩ : MethodName)) (y := (⟨"java/lang/Enum", "ordinal", "()I"⟩ : MethodName)) (owner := "java/lang/Enum") hown (mvT hZ (hw _ (List.mem_of_getElem? (i := 13) rfl))) (mvT hZ (hw _ (List.mem_of_getElem? (i := 14) rfl))) (mvT hZ (hw _ (List.mem_of_getElem? (i := 15) rfl))) (by decide) (mvT hZ (hw _ (List.mem_of_getElem? (i := 17) rfl))) (mvT hZ (hw _ (List.mem_of_getElem? (i := 16) rfl))) (backOf (W := 0) (rm3 l Z a0 hw [] a1 (4 : Int32) h0 n0 Z0 F_a1_ordinal) hZ (hw _ (List.mem_of_getElem? (i := 19) rfl)) (hw _ (List.mem_of_getElem? (i := 18) rfl)) (by decide) (by decide)) q1a q1c (g := (mkF m 1 #[.val (.ref a1), .unset] [(.ref a1)])) rfl (by rw [hml]; rfl) (Steps.refl _) (argsL := []) (rest := []) (lenOf pd_0 rfl) rfl (by show 2 * 0 + _ ≤ _; exact Nat.le_of_eq rfl) (hb hby d2_1) (fun _ _ => ⟨rfl, e0, (by decide : 0 + 0 ≤ _), (by decide : 0 + 0 ≤ _)⟩)
  dsimp only [Pt.U, Pt.locs, Pt.cells, Pt.slots] at X1 l1 y1 z1 st1 hQ1
  subst l1 y1 z1
  obtain ⟨hv1, N1q, e1⟩ := hQ1
  rw [show f3 a1 (4 : Int32) = (4 : Int32) from rfl] at hv1
  subst hv1
  have N1 := Fr.app N0 N1q
  obtain ⟨T2, X2, e2, st2⟩ := getS X1 hx hZ (host := "") hown (hw _ (List.mem_of_getElem? (i := 48) rfl)) Via.refl e1 S_ExtendedDecision_INDETERMINATE_D (g := (mkF m 61 #[.val (.ref a1), .unset] [])) rfl (hb hby d2_61)
  obtain ⟨fs, hr, hrun, hended, hW, hsame⟩ := X2.leave (v := some (.ref s6_INDETERMINATE_D)) (fun h => by rw [Bd.returns] at h; cases h)
  refine ⟨_, _, ?_, hrun, hended, _, _, rfl, ?_, ⟨_, rfl⟩, hW, hsame.mono (by decide) (by decide)⟩
  · show Steps p.tables e below (s₁.setTop (mkF m 0 #[.val (.ref a1), .unset] [])) _
    refine XS.aloadN X0.here hx rfl (hb hby d2_0) rfl rfl ?_
    show Steps p.tables e below (s₁.setTop (mkF m 1 #[.val (.ref a1), .unset] [(.ref a1)])) _
    refine st1.trans ?_
    show Steps p.tables e below (T1.setTop (mkF m 4 #[.val (.ref a1), .unset] [(.int (4 : Int32))])) _
    refine XS.tswIn X1.here hx rfl (pc0 := 4) (pc' := 61) rfl (hb hby d2_4) rfl (by decide) (o := 57) (by decide) (by decide) (by decide) ?_
    show Steps p.tables e below (T1.setTop (mkF m 61 #[.val (.ref a1), .unset] [])) _
    refine st2 _ ?_
    show Steps p.tables e below (T2.setTop (mkF m 64 #[.val (.ref a1), .unset] [(.ref s6_INDETERMINATE_D)])) _
    refine XS.astoreN X2.here hx rfl (hb hby d2_64) rfl rfl (l' := #[.val (.ref a1), .val (.ref s6_INDETERMINATE_D)]) rfl ?_
    show Steps p.tables e below (T2.setTop (mkF m 65 #[.val (.ref a1), .val (.ref s6_INDETERMINATE_D)] [])) _
    refine XS.goto X2.here hx rfl (pc0 := 65) (pc' := 70) rfl (hb hby d2_65) (by decide) (by decide) ?_
    show Steps p.tables e below (T2.setTop (mkF m 70 #[.val (.ref a1), .val (.ref s6_INDETERMINATE_D)] [])) _
    refine XS.aloadN X2.here hx rfl (hb hby d2_70) rfl rfl ?_
    show Steps p.tables e below (T2.setTop (mkF m 71 #[.val (.ref a1), .val (.ref s6_INDETERMINATE_D)] [(.ref s6_INDETERMINATE_D)])) _
    jvm_step X2.here [X2.here.top, hx, (hb hby d2_71), X2.method', Bd.returns, Value.isRef, FieldType.isReference]
    first | (intro acts; rw [hr _ acts rfl rfl rfl]) | rw [hr _ _ rfl rfl rfl]
    exact Steps.refl _
  · show Qm4 Z a1 s0_PERMIT s1_DENY s4_NOT_APPLICABLE s5_INDETERMINATE_DP s6_INDETERMINATE_D s7_INDETERMINATE_P h0 n0 _ T2.heap _
    rw [e2]
    have hf : fm4 a1 s0_PERMIT s1_DENY s4_NOT_APPLICABLE s5_INDETERMINATE_DP s6_INDETERMINATE_D s7_INDETERMINATE_P = s6_INDETERMINATE_D := rfl
    exact ⟨by rw [hf], N1, rfl⟩
theorem pn_m5 : plainName "com/example/verdikt/verdikt/model/ExtendedDecision" = true := by first | (simp [plainName, overriddenIn]; done) | decide +kernel
theorem ef_m5 (m : MethodId) (a1 : Addr) : entryFrame m #[(.ref a1)] 2 = mkF m 0 #[.val (.ref a1), .unset] [] := by first | (simp [entryFrame, mkF, argsToLocals, Value.category]; done) | rfl
def Qm5 (Z : State) (a1 : Addr) (s0_PERMIT : Addr) (s1_DENY : Addr) (s4_NOT_APPLICABLE : Addr) (s5_INDETERMINATE_DP : Addr) (s6_INDETERMINATE_D : Addr) (s7_INDETERMINATE_P : Addr) (h0 : Heap) (n0 : Nat) (v : Option Value) (h : Heap) (L : List Loc) : Prop := v = some (.ref (fm5 a1 s0_PERMIT s1_DENY s4_NOT_APPLICABLE s5_INDETERMINATE_DP s6_INDETERMINATE_D s7_INDETERMINATE_P)) ∧ Fr n0 L ∧ h = h0
set_option maxRecDepth 65536 in
set_option maxHeartbeats 40000000 in
theorem rmm5 (l : Launch) (Z : State) (a0 : Array Value) (hw : ∀ d ∈ tables_1, d.before a0 Z = true) (ws : List Jvm.Cond) (a1 : Addr) (s0_PERMIT : Addr) (s1_DENY : Addr) (s4_NOT_APPLICABLE : Addr) (s5_INDETERMINATE_DP : Addr) (s6_INDETERMINATE_D : Addr) (s7_INDETERMINATE_P : Addr) (h0 : Heap) (n0 : Nat) (Z0 : n0 ≤ h0.size) (E_a1 : Exa Z h0 a1 "com/example/verdikt/verdikt/model/ExtendedDecision") (F_a1_ordinal : Fld Z h0 a1 "java/lang/Enum" "ordinal" "I" (.int (5 : Int32))) (S_ExtendedDecision_PERMIT : Sta Z h0 "com/example/verdikt/verdikt/model/ExtendedDecision" "PERMIT" "Lcom/example/verdikt/verdikt/model/ExtendedDecision;" (.ref s0_PERMIT)) (S_ExtendedDecision_DENY : Sta Z h0 "com/example/verdikt/verdikt/model/ExtendedDecision" "DENY" "Lcom/example/verdikt/verdikt/model/ExtendedDecision;" (.ref s1_DENY)) (S_ExtendedDecision_NOT_APPLICABLE : Sta Z h0 "com/example/verdikt/verdikt/model/ExtendedDecision" "NOT_APPLICABLE" "Lcom/example/verdikt/verdikt/model/ExtendedDecision;" (.ref s4_NOT_APPLICABLE)) (S_ExtendedDecision_INDETERMINATE_DP : Sta Z h0 "com/example/verdikt/verdikt/model/ExtendedDecision" "INDETERMINATE_DP" "Lcom/example/verdikt/verdikt/model/ExtendedDecision;" (.ref s5_INDETERMINATE_DP)) (S_ExtendedDecision_INDETERMINATE_D : Sta Z h0 "com/example/verdikt/verdikt/model/ExtendedDecision" "INDETERMINATE_D" "Lcom/example/verdikt/verdikt/model/ExtendedDecision;" (.ref s6_INDETERMINATE_D)) (S_ExtendedDecision_INDETERMINATE_P : Sta Z h0 "com/example/verdikt/verdikt/model/ExtendedDecision" "INDETERMINATE_P" "Lcom/example/verdikt/verdikt/model/ExtendedDecision;" (.ref s7_INDETERMINATE_P)) :
    MetFree l (⟨"com/example/verdikt/verdikt/model/ExtendedDecision", "mirror", "()Lcom/example/verdikt/verdikt/model/ExtendedDecision;"⟩ : MethodName) (head1 (Jvm.Cond.code (⟨"com/example/verdikt/verdikt/model/ExtendedDecision", "mirror", "()Lcom/example/verdikt/verdikt/model/ExtendedDecision;"⟩ : MethodName) prog_41_method_5_code 2 (some (.object "com/example/verdikt/verdikt/model/ExtendedDecision")) :: ws) ({ frames := 1, cells := 0, slots := 0, locals := 12 } : Room)) (fun a U => a = #[(.ref a1)] ∧ Z.Warmed39 U.vm ∧ U.heap = h0) (fun _ _ _ _ _ => True) (fun _ U o U' => ∃ v L, o = .returned v ∧ Qm5 Z a1 s0_PERMIT s1_DENY s4_NOT_APPLICABLE s5_INDETERMINATE_DP s6_INDETERMINATE_D s7_INDETERMINATE_P h0 n0 v U'.heap L ∧ FrameEnd U o U' L ({ frames := 1, cells := 0, slots := 0, locals := 12 } : Room).cells ({ frames := 1, cells := 0, slots := 0, locals := 12 } : Room).slots) := by
  refine MetFree.of_bodySF (plainFor_of_name pn_m5) hisR ?_
  intro p e s m args below meth c s₁ Bd hml0 hP hK
  obtain ⟨rfl, hZ, hh⟩ := hP
  have hx := Bd.exec
  have hby := Bd.bytes
  have hml : c.maxLocals = 2 := hml0
  have hown : s.vm.findClass "com/example/verdikt/verdikt/model/ExtendedDecision" = some m.cls := findClass_of_methodNamed Bd.named
  have hnm := (name_of_methodNamed Bd.named Bd.method).1
  have X0 : Stand p l e ({ frames := 1, cells := 0, slots := 0, locals := 12 } : Room) s m #[(.ref a1)] below meth c s₁ [] 0 0 := Stand.of_body Bd
  have e0 : s₁.heap = h0 := by rw [← hh, Bd.state]; rfl
  have N0 := Fr.nil n0
  have pre0 : ∀ t, Steps p.tables e below (s₁.setTop (mkF m 0 #[.val (.ref a1), .unset] [])) t → Steps p.tables e below (s₁.setTop (entryFrame m #[(.ref a1)] 2)) t := fun t k => castTop (ef_m5 m a1) k
  refine own_step (Q := fun o U' => ∃ v L, o = .returned v ∧ Qm5 Z a1 s0_PERMIT s1_DENY s4_NOT_APPLICABLE s5_INDETERMINATE_DP s6_INDETERMINATE_D s7_INDETERMINATE_P h0 n0 v U'.heap L ∧ FrameEnd s o U' L ({ frames := 1, cells := 0, slots := 0, locals := 12 } : Room).cells ({ frames := 1, cells := 0, slots := 0, locals := 12 } : Room).slots) pre0 ?_
  obtain ⟨cq1, kq1, q1a, q1b, q1c⟩ := isOf hZ e0 E_a1
  obtain ⟨_, _, ⟨T1, L1, k1, n1⟩, -, X1, ⟨Lc1, hQ1, l1, y1, z1⟩, st1⟩ := X0.virtualBackUp hx (x := (⟨"com/example/verdikt/verdikt/model/ExtendedDecision", "ordinal", "()I"⟩ : MethodName)) (y := (⟨"java/lang/Enum", "ordinal", "()I"⟩ : MethodName)) (owner := "java/lang/Enum") hown (mvT hZ (hw _ (List.mem_of_getElem? (i := 13) rfl))) (mvT hZ (hw _ (List.mem_of_getElem? (i := 14) rfl))) (mvT hZ (hw _ (List.mem_of_getElem? (i := 15) rfl))) (by decide) (mvT hZ (hw _ (List.mem_of_getElem? (i := 17) rfl))) (mvT hZ (hw _ (List.mem_of_getElem? (i := 16) rfl))) (backOf (W := 0) (rm3 l Z a0 hw [] a1 (5 : Int32) h0 n0 Z0 F_a1_ordinal) hZ (hw _ (List.mem_of_getElem? (i := 19) rfl)) (hw _ (List.mem_of_getElem? (i := 18) rfl)) (by decide) (by decide)) q1a q1c (g := (mkF m 1 #[.val (.ref a1), .unset] [(.ref a1)])) rfl (by rw [hml]; rfl) (Steps.refl _) (argsL := []) (rest := []) (lenOf pd_0 rfl) rfl (by show 2 * 0 + _ ≤ _; exact Nat.le_of_eq rfl) (hb hby d2_1) (fun _ _ => ⟨rfl, e0, (by decide : 0 + 0 ≤ _), (by decide : 0 + 0 ≤ _)⟩)
  dsimp only [Pt.U, Pt.locs, Pt.cells, Pt.slots] at X1 l1 y1 z1 st1 hQ1
  subst l1 y1 z1
  obtain ⟨hv1, N1q, e1⟩ := hQ1
  rw [show f3 a1 (5 : Int32) = (5 : Int32) from rfl] at hv1
  subst hv1
  have N1 := Fr.app N0 N1q
  obtain ⟨fs, hr, hrun, hended, hW, hsame⟩ := X1.leave (v := some (.ref a1)) (fun h => by rw [Bd.returns] at h; cases h)
  refine ⟨_, _, ?_, hrun, hended, _, _, rfl, ?_, ⟨_, rfl⟩, hW, hsame.mono (by decide) (by decide)⟩
  · show Steps p.tables e below (s₁.setTop (mkF m 0 #[.val (.ref a1), .unset] [])) _
    refine XS.aloadN X0.here hx rfl (hb hby d2_0) rfl rfl ?_
    show Steps p.tables e below (s₁.setTop (mkF m 1 #[.val (.ref a1), .unset] [(.ref a1)])) _
    refine st1.trans ?_
    show Steps p.tables e below (T1.setTop (mkF m 4 #[.val (.ref a1), .unset] [(.int (5 : Int32))])) _
    refine XS.tswOut X1.here hx rfl (pc0 := 4) (pc' := 68) rfl (hb hby d2_4) rfl (by decide) (by decide) (by decide) ?_
    show Steps p.tables e below (T1.setTop (mkF m 68 #[.val (.ref a1), .unset] [])) _
    refine XS.aloadN X1.here hx rfl (hb hby d2_68) rfl rfl ?_
    show Steps p.tables e below (T1.setTop (mkF m 69 #[.val (.ref a1), .unset] [(.ref a1)])) _
    refine XS.astoreN X1.here hx rfl (hb hby d2_69) rfl rfl (l' := #[.val (.ref a1), .val (.ref a1)]) rfl ?_
    show Steps p.tables e below (T1.setTop (mkF m 70 #[.val (.ref a1), .val (.ref a1)] [])) _
    refine XS.aloadN X1.here hx rfl (hb hby d2_70) rfl rfl ?_
    show Steps p.tables e below (T1.setTop (mkF m 71 #[.val (.ref a1), .val (.ref a1)] [(.ref a1)])) _
    jvm_step X1.here [X1.here.top, hx, (hb hby d2_71), X1.method', Bd.returns, Value.isRef, FieldType.isReference]
    first | (intro acts; rw [hr _ acts rfl rfl rfl]) | rw [hr _ _ rfl rfl rfl]
    exact Steps.refl _
  · show Qm5 Z a1 s0_PERMIT s1_DENY s4_NOT_APPLICABLE s5_INDETERMINATE_DP s6_INDETERMINATE_D s7_INDETERMINATE_P h0 n0 _ T1.heap _
    rw [e1]
    have hf : fm5 a1 s0_PERMIT s1_DENY s4_NOT_APPLICABLE s5_INDETERMINATE_DP s6_INDETERMINATE_D s7_INDETERMINATE_P = a1 := rfl
    exact ⟨by rw [hf], N1, rfl⟩
theorem d4_0 : decode prog_41_method_4_code 0 = .ok (.aload_n 0, 1) := by decide +kernel
theorem d4_1 : decode prog_41_method_4_code 1 = .ok (.getfield 41, 3) := by decide +kernel
theorem d4_4 : decode prog_41_method_4_code 4 = .ok (.areturn, 1) := by decide +kernel
theorem pn_4 : plainName "com/example/verdikt/verdikt/model/ExtendedDecision" = true := by first | (simp [plainName, overriddenIn]; done) | decide +kernel
theorem ef_4 (m : MethodId) (a1 : Addr) : entryFrame m #[(.ref a1)] 1 = mkF m 0 #[.val (.ref a1)] [] := by first | (simp [entryFrame, mkF, argsToLocals, Value.category]; done) | rfl
def Q4 (Z : State) (a1 : Addr) (u1 : Addr) (h0 : Heap) (n0 : Nat) (v : Option Value) (h : Heap) (L : List Loc) : Prop := v = some (.ref (f4 a1 u1)) ∧ Fr n0 L ∧ h = h0
set_option maxRecDepth 65536 in
set_option maxHeartbeats 40000000 in
theorem rm4 (l : Launch) (Z : State) (a0 : Array Value) (hw : ∀ d ∈ tables_1, d.before a0 Z = true) (ws : List Jvm.Cond) (a1 : Addr) (u1 : Addr) (h0 : Heap) (n0 : Nat) (Z0 : n0 ≤ h0.size) (F_a1_decision : Fld Z h0 a1 "com/example/verdikt/verdikt/model/ExtendedDecision" "decision" "Lcom/example/verdikt/verdikt/model/Decision;" (.ref u1)) :
    MetFree l (⟨"com/example/verdikt/verdikt/model/ExtendedDecision", "decision", "()Lcom/example/verdikt/verdikt/model/Decision;"⟩ : MethodName) (head1 (Jvm.Cond.code (⟨"com/example/verdikt/verdikt/model/ExtendedDecision", "decision", "()Lcom/example/verdikt/verdikt/model/Decision;"⟩ : MethodName) prog_41_method_4_code 1 (some (.object "com/example/verdikt/verdikt/model/Decision")) :: ws) ({ frames := 0, cells := 0, slots := 0, locals := 0 } : Room)) (fun a U => a = #[(.ref a1)] ∧ Z.Warmed39 U.vm ∧ U.heap = h0) (fun _ _ _ _ _ => True) (fun _ U o U' => ∃ v L, o = .returned v ∧ Q4 Z a1 u1 h0 n0 v U'.heap L ∧ FrameEnd U o U' L ({ frames := 0, cells := 0, slots := 0, locals := 0 } : Room).cells ({ frames := 0, cells := 0, slots := 0, locals := 0 } : Room).slots) := by
  refine MetFree.of_bodySF (plainFor_of_name pn_4) hisR ?_
  intro p e s m args below meth c s₁ Bd hml0 hP hK
  obtain ⟨rfl, hZ, hh⟩ := hP
  have hx := Bd.exec
  have hby := Bd.bytes
  have hml : c.maxLocals = 1 := hml0
  have hown : s.vm.findClass "com/example/verdikt/verdikt/model/ExtendedDecision" = some m.cls := findClass_of_methodNamed Bd.named
  have hnm := (name_of_methodNamed Bd.named Bd.method).1
  have X0 : Stand p l e ({ frames := 0, cells := 0, slots := 0, locals := 0 } : Room) s m #[(.ref a1)] below meth c s₁ [] 0 0 := Stand.of_body Bd
  have e0 : s₁.heap = h0 := by rw [← hh, Bd.state]; rfl
  have N0 := Fr.nil n0
  have pre0 : ∀ t, Steps p.tables e below (s₁.setTop (mkF m 0 #[.val (.ref a1)] [])) t → Steps p.tables e below (s₁.setTop (entryFrame m #[(.ref a1)] 1)) t := fun t k => castTop (ef_4 m a1) k
  refine own_step (Q := fun o U' => ∃ v L, o = .returned v ∧ Q4 Z a1 u1 h0 n0 v U'.heap L ∧ FrameEnd s o U' L ({ frames := 0, cells := 0, slots := 0, locals := 0 } : Room).cells ({ frames := 0, cells := 0, slots := 0, locals := 0 } : Room).slots) pre0 ?_
  obtain ⟨T1, X1, e1, st1⟩ := getF X0 hx hZ hown (host := "") (Or.inl (hw _ (List.mem_of_getElem? (i := 30) rfl))) Via.refl e0 F_a1_decision (g := (mkF m 1 #[.val (.ref a1)] [(.ref a1)])) rfl rfl (hb hby d4_1)
  obtain ⟨fs, hr, hrun, hended, hW, hsame⟩ := X1.leave (v := some (.ref u1)) (fun h => by rw [Bd.returns] at h; cases h)
  refine ⟨_, _, ?_, hrun, hended, _, _, rfl, ?_, ⟨_, rfl⟩, hW, hsame.mono (by decide) (by decide)⟩
  · show Steps p.tables e below (s₁.setTop (mkF m 0 #[.val (.ref a1)] [])) _
    refine XS.aloadN X0.here hx rfl (hb hby d4_0) rfl rfl ?_
    show Steps p.tables e below (s₁.setTop (mkF m 1 #[.val (.ref a1)] [(.ref a1)])) _
    refine st1 _ ?_
    show Steps p.tables e below (T1.setTop (mkF m 4 #[.val (.ref a1)] [(.ref u1)])) _
    jvm_step X1.here [X1.here.top, hx, (hb hby d4_4), X1.method', Bd.returns, Value.isRef, FieldType.isReference]
    first | (intro acts; rw [hr _ acts rfl rfl rfl]) | rw [hr _ _ rfl rfl rfl]
    exact Steps.refl _
  · show Q4 Z a1 u1 h0 n0 _ T1.heap _
    rw [e1]
    have hf : f4 a1 u1 = u1 := rfl
    exact ⟨by rw [hf], N0, rfl⟩
theorem d5_0 : decode method_3_code 0 = .ok (.aload_n 0, 1) := by decide +kernel
theorem d5_1 : decode method_3_code 1 = .ok (.getstatic 28, 3) := by decide +kernel
theorem d5_4 : decode method_3_code 4 = .ok (.if_acmp .ne 7, 3) := by decide +kernel
theorem d5_7 : decode method_3_code 7 = .ok (.getstatic 33, 3) := by decide +kernel
theorem d5_10 : decode method_3_code 10 = .ok (.areturn, 1) := by decide +kernel
theorem d5_11 : decode method_3_code 11 = .ok (.aload_n 0, 1) := by decide +kernel
theorem d5_12 : decode method_3_code 12 = .ok (.getstatic 33, 3) := by decide +kernel
theorem d5_15 : decode method_3_code 15 = .ok (.if_acmp .ne 7, 3) := by decide +kernel
theorem d5_18 : decode method_3_code 18 = .ok (.getstatic 28, 3) := by decide +kernel
theorem d5_21 : decode method_3_code 21 = .ok (.areturn, 1) := by decide +kernel
theorem d5_22 : decode method_3_code 22 = .ok (.aload_n 0, 1) := by decide +kernel
theorem d5_23 : decode method_3_code 23 = .ok (.areturn, 1) := by decide +kernel
theorem pn_5 : plainName "com/example/verdikt/verdikt/model/ExtendedDecisionMirrorPinLaw" = true := by first | (simp [plainName, overriddenIn]; done) | decide +kernel
theorem ef_5 (m : MethodId) (a1 : Addr) : entryFrame m #[(.ref a1)] 1 = mkF m 0 #[.val (.ref a1)] [] := by first | (simp [entryFrame, mkF, argsToLocals, Value.category]; done) | rfl
def Q5 (Z : State) (a1 : Addr) (s2_DENY : Addr) (s3_PERMIT : Addr) (s8_INDETERMINATE : Addr) (s9_NOT_APPLICABLE : Addr) (h0 : Heap) (n0 : Nat) (v : Option Value) (h : Heap) (L : List Loc) : Prop := v = some (.ref (f5 a1 s2_DENY s3_PERMIT s8_INDETERMINATE s9_NOT_APPLICABLE)) ∧ Fr n0 L ∧ h = h0
set_option maxRecDepth 65536 in
set_option maxHeartbeats 40000000 in
theorem rm5 (l : Launch) (Z : State) (a0 : Array Value) (hw : ∀ d ∈ tables_1, d.before a0 Z = true) (ws : List Jvm.Cond) (a1 : Addr) (s2_DENY : Addr) (s3_PERMIT : Addr) (s8_INDETERMINATE : Addr) (s9_NOT_APPLICABLE : Addr) (h0 : Heap) (n0 : Nat) (Z0 : n0 ≤ h0.size) (S_Decision_DENY : Sta Z h0 "com/example/verdikt/verdikt/model/Decision" "DENY" "Lcom/example/verdikt/verdikt/model/Decision;" (.ref s2_DENY)) (S_Decision_PERMIT : Sta Z h0 "com/example/verdikt/verdikt/model/Decision" "PERMIT" "Lcom/example/verdikt/verdikt/model/Decision;" (.ref s3_PERMIT)) (S_Decision_INDETERMINATE : Sta Z h0 "com/example/verdikt/verdikt/model/Decision" "INDETERMINATE" "Lcom/example/verdikt/verdikt/model/Decision;" (.ref s8_INDETERMINATE)) (S_Decision_NOT_APPLICABLE : Sta Z h0 "com/example/verdikt/verdikt/model/Decision" "NOT_APPLICABLE" "Lcom/example/verdikt/verdikt/model/Decision;" (.ref s9_NOT_APPLICABLE)) :
    MetFree l (⟨"com/example/verdikt/verdikt/model/ExtendedDecisionMirrorPinLaw", "swap", "(Lcom/example/verdikt/verdikt/model/Decision;)Lcom/example/verdikt/verdikt/model/Decision;"⟩ : MethodName) (head1 (Jvm.Cond.code (⟨"com/example/verdikt/verdikt/model/ExtendedDecisionMirrorPinLaw", "swap", "(Lcom/example/verdikt/verdikt/model/Decision;)Lcom/example/verdikt/verdikt/model/Decision;"⟩ : MethodName) method_3_code 1 (some (.object "com/example/verdikt/verdikt/model/Decision")) :: ws) ({ frames := 0, cells := 0, slots := 0, locals := 0 } : Room)) (fun a U => a = #[(.ref a1)] ∧ Z.Warmed39 U.vm ∧ U.heap = h0) (fun _ _ _ _ _ => True) (fun _ U o U' => ∃ v L, o = .returned v ∧ Q5 Z a1 s2_DENY s3_PERMIT s8_INDETERMINATE s9_NOT_APPLICABLE h0 n0 v U'.heap L ∧ FrameEnd U o U' L ({ frames := 0, cells := 0, slots := 0, locals := 0 } : Room).cells ({ frames := 0, cells := 0, slots := 0, locals := 0 } : Room).slots) := by
  refine MetFree.of_bodySF (plainFor_of_name pn_5) hisR ?_
  intro p e s m args below meth c s₁ Bd hml0 hP hK
  obtain ⟨rfl, hZ, hh⟩ := hP
  have hx := Bd.exec
  have hby := Bd.bytes
  have hml : c.maxLocals = 1 := hml0
  have hown : s.vm.findClass "com/example/verdikt/verdikt/model/ExtendedDecisionMirrorPinLaw" = some m.cls := findClass_of_methodNamed Bd.named
  have hnm := (name_of_methodNamed Bd.named Bd.method).1
  have X0 : Stand p l e ({ frames := 0, cells := 0, slots := 0, locals := 0 } : Room) s m #[(.ref a1)] below meth c s₁ [] 0 0 := Stand.of_body Bd
  have e0 : s₁.heap = h0 := by rw [← hh, Bd.state]; rfl
  have N0 := Fr.nil n0
  have pre0 : ∀ t, Steps p.tables e below (s₁.setTop (mkF m 0 #[.val (.ref a1)] [])) t → Steps p.tables e below (s₁.setTop (entryFrame m #[(.ref a1)] 1)) t := fun t k => castTop (ef_5 m a1) k
  refine own_step (Q := fun o U' => ∃ v L, o = .returned v ∧ Q5 Z a1 s2_DENY s3_PERMIT s8_INDETERMINATE s9_NOT_APPLICABLE h0 n0 v U'.heap L ∧ FrameEnd s o U' L ({ frames := 0, cells := 0, slots := 0, locals := 0 } : Room).cells ({ frames := 0, cells := 0, slots := 0, locals := 0 } : Room).slots) pre0 ?_
  obtain ⟨T1, X1, e1, st1⟩ := getS X0 hx hZ (host := "") hown (hw _ (List.mem_of_getElem? (i := 38) rfl)) Via.refl e0 S_Decision_PERMIT (g := (mkF m 1 #[.val (.ref a1)] [(.ref a1)])) rfl (hb hby d5_1)
  refine own_step (B := T1.setTop (mkF m 4 #[.val (.ref a1)] [(.ref s3_PERMIT), (.ref a1)])) (fun t k => ?_) ?_
  · show Steps p.tables e below (s₁.setTop (mkF m 0 #[.val (.ref a1)] [])) _
    refine XS.aloadN X0.here hx rfl (hb hby d5_0) rfl rfl ?_
    show Steps p.tables e below (s₁.setTop (mkF m 1 #[.val (.ref a1)] [(.ref a1)])) _
    refine st1 _ ?_
    exact k
  by_cases h2 : a1 = s3_PERMIT
  · obtain ⟨T3, X3, e3, st3⟩ := getS X1 hx hZ (host := "") hown (hw _ (List.mem_of_getElem? (i := 39) rfl)) Via.refl e1 S_Decision_DENY (g := (mkF m 7 #[.val (.ref a1)] [])) rfl (hb hby d5_7)
    obtain ⟨fs, hr, hrun, hended, hW, hsame⟩ := X3.leave (v := some (.ref s2_DENY)) (fun h => by rw [Bd.returns] at h; cases h)
    refine ⟨_, _, ?_, hrun, hended, _, _, rfl, ?_, ⟨_, rfl⟩, hW, hsame.mono (by decide) (by decide)⟩
    · show Steps p.tables e below (T1.setTop (mkF m 4 #[.val (.ref a1)] [(.ref s3_PERMIT), (.ref a1)])) _
      refine XT.acmpNo X1.here hx rfl (hb hby d5_4) rfl rfl rfl ((own_aT h2).2) ?_
      show Steps p.tables e below (T1.setTop (mkF m 7 #[.val (.ref a1)] [])) _
      refine st3 _ ?_
      show Steps p.tables e below (T3.setTop (mkF m 10 #[.val (.ref a1)] [(.ref s2_DENY)])) _
      jvm_step X3.here [X3.here.top, hx, (hb hby d5_10), X3.method', Bd.returns, Value.isRef, FieldType.isReference]
      first | (intro acts; rw [hr _ acts rfl rfl rfl]) | rw [hr _ _ rfl rfl rfl]
      exact Steps.refl _
    · show Q5 Z a1 s2_DENY s3_PERMIT s8_INDETERMINATE s9_NOT_APPLICABLE h0 n0 _ T3.heap _
      rw [e3]
      have hf : f5 a1 s2_DENY s3_PERMIT s8_INDETERMINATE s9_NOT_APPLICABLE = s2_DENY := by simp only [f5, if_pos h2]
      exact ⟨by rw [hf], N0, rfl⟩
  · obtain ⟨T4, X4, e4, st4⟩ := getS X1 hx hZ (host := "") hown (hw _ (List.mem_of_getElem? (i := 39) rfl)) Via.refl e1 S_Decision_DENY (g := (mkF m 12 #[.val (.ref a1)] [(.ref a1)])) rfl (hb hby d5_12)
    refine own_step (B := T4.setTop (mkF m 15 #[.val (.ref a1)] [(.ref s2_DENY), (.ref a1)])) (fun t k => ?_) ?_
    · show Steps p.tables e below (T1.setTop (mkF m 4 #[.val (.ref a1)] [(.ref s3_PERMIT), (.ref a1)])) _
      refine XT.acmpYes X1.here hx rfl (pc0 := 4) (pc' := 11) rfl (hb hby d5_4) rfl rfl rfl ((own_aF h2).2) (by decide) (by decide) ?_
      show Steps p.tables e below (T1.setTop (mkF m 11 #[.val (.ref a1)] [])) _
      refine XS.aloadN X1.here hx rfl (hb hby d5_11) rfl rfl ?_
      show Steps p.tables e below (T1.setTop (mkF m 12 #[.val (.ref a1)] [(.ref a1)])) _
      refine st4 _ ?_
      exact k
    by_cases h5 : a1 = s2_DENY
    · obtain ⟨T6, X6, e6, st6⟩ := getS X4 hx hZ (host := "") hown (hw _ (List.mem_of_getElem? (i := 38) rfl)) Via.refl e4 S_Decision_PERMIT (g := (mkF m 18 #[.val (.ref a1)] [])) rfl (hb hby d5_18)
      obtain ⟨fs, hr, hrun, hended, hW, hsame⟩ := X6.leave (v := some (.ref s3_PERMIT)) (fun h => by rw [Bd.returns] at h; cases h)
      refine ⟨_, _, ?_, hrun, hended, _, _, rfl, ?_, ⟨_, rfl⟩, hW, hsame.mono (by decide) (by decide)⟩
      · show Steps p.tables e below (T4.setTop (mkF m 15 #[.val (.ref a1)] [(.ref s2_DENY), (.ref a1)])) _
        refine XT.acmpNo X4.here hx rfl (hb hby d5_15) rfl rfl rfl ((own_aT h5).2) ?_
        show Steps p.tables e below (T4.setTop (mkF m 18 #[.val (.ref a1)] [])) _
        refine st6 _ ?_
        show Steps p.tables e below (T6.setTop (mkF m 21 #[.val (.ref a1)] [(.ref s3_PERMIT)])) _
        jvm_step X6.here [X6.here.top, hx, (hb hby d5_21), X6.method', Bd.returns, Value.isRef, FieldType.isReference]
        first | (intro acts; rw [hr _ acts rfl rfl rfl]) | rw [hr _ _ rfl rfl rfl]
        exact Steps.refl _
      · show Q5 Z a1 s2_DENY s3_PERMIT s8_INDETERMINATE s9_NOT_APPLICABLE h0 n0 _ T6.heap _
        rw [e6]
        have hf : f5 a1 s2_DENY s3_PERMIT s8_INDETERMINATE s9_NOT_APPLICABLE = s3_PERMIT := by simp only [f5, if_neg h2, if_pos h5]
        exact ⟨by rw [hf], N0, rfl⟩
    · obtain ⟨fs, hr, hrun, hended, hW, hsame⟩ := X4.leave (v := some (.ref a1)) (fun h => by rw [Bd.returns] at h; cases h)
      refine ⟨_, _, ?_, hrun, hended, _, _, rfl, ?_, ⟨_, rfl⟩, hW, hsame.mono (by decide) (by decide)⟩
      · show Steps p.tables e below (T4.setTop (mkF m 15 #[.val (.ref a1)] [(.ref s2_DENY), (.ref a1)])) _
        refine XT.acmpYes X4.here hx rfl (pc0 := 15) (pc' := 22) rfl (hb hby d5_15) rfl rfl rfl ((own_aF h5).2) (by decide) (by decide) ?_
        show Steps p.tables e below (T4.setTop (mkF m 22 #[.val (.ref a1)] [])) _
        refine XS.aloadN X4.here hx rfl (hb hby d5_22) rfl rfl ?_
        show Steps p.tables e below (T4.setTop (mkF m 23 #[.val (.ref a1)] [(.ref a1)])) _
        jvm_step X4.here [X4.here.top, hx, (hb hby d5_23), X4.method', Bd.returns, Value.isRef, FieldType.isReference]
        first | (intro acts; rw [hr _ acts rfl rfl rfl]) | rw [hr _ _ rfl rfl rfl]
        exact Steps.refl _
      · show Q5 Z a1 s2_DENY s3_PERMIT s8_INDETERMINATE s9_NOT_APPLICABLE h0 n0 _ T4.heap _
        rw [e4]
        have hf : f5 a1 s2_DENY s3_PERMIT s8_INDETERMINATE s9_NOT_APPLICABLE = a1 := by simp only [f5, if_neg h2, if_neg h5]
        exact ⟨by rw [hf], N0, rfl⟩
theorem pn_0 : plainName "com/example/verdikt/verdikt/model/ExtendedDecisionMirrorPinLaw" = true := by first | (simp [plainName, overriddenIn]; done) | decide +kernel
theorem ef_0 (m : MethodId) (p1 : Int32) : entryFrame m #[(.int p1)] maxLocals = mkF m 0 #[.val (.int p1), .unset, .unset, .unset, .unset, .unset, .unset, .unset] [] := by first | (simp [entryFrame, mkF, argsToLocals, Value.category, maxLocals]; done) | rfl
def Q0 (Z : State) (p1 : Int32) (s0_PERMIT : Addr) (s1_DENY : Addr) (s2_DENY : Addr) (s3_PERMIT : Addr) (s4_NOT_APPLICABLE : Addr) (s5_INDETERMINATE_DP : Addr) (s6_INDETERMINATE_D : Addr) (s7_INDETERMINATE_P : Addr) (s8_INDETERMINATE : Addr) (s9_NOT_APPLICABLE : Addr) (h0 : Heap) (n0 : Nat) (v : Option Value) (h : Heap) (L : List Loc) : Prop := v = some (.int (1 : Int32)) ∧ Fr n0 L
set_option maxRecDepth 65536 in
set_option maxHeartbeats 40000000 in
theorem rm0 (l : Launch) (Z : State) (a0 : Array Value) (hw : ∀ d ∈ tables_1, d.before a0 Z = true) (ws : List Jvm.Cond) (p1 : Int32) (s0_PERMIT : Addr) (s1_DENY : Addr) (s2_DENY : Addr) (s3_PERMIT : Addr) (s4_NOT_APPLICABLE : Addr) (s5_INDETERMINATE_DP : Addr) (s6_INDETERMINATE_D : Addr) (s7_INDETERMINATE_P : Addr) (s8_INDETERMINATE : Addr) (s9_NOT_APPLICABLE : Addr) (h0 : Heap) (n0 : Nat) (Z0 : n0 ≤ h0.size) (S_ExtendedDecision_PERMIT : Sta Z h0 "com/example/verdikt/verdikt/model/ExtendedDecision" "PERMIT" "Lcom/example/verdikt/verdikt/model/ExtendedDecision;" (.ref s0_PERMIT)) (E_s0_PERMIT : Exa Z h0 s0_PERMIT "com/example/verdikt/verdikt/model/ExtendedDecision") (S_ExtendedDecision_DENY : Sta Z h0 "com/example/verdikt/verdikt/model/ExtendedDecision" "DENY" "Lcom/example/verdikt/verdikt/model/ExtendedDecision;" (.ref s1_DENY)) (E_s1_DENY : Exa Z h0 s1_DENY "com/example/verdikt/verdikt/model/ExtendedDecision") (S_Decision_DENY : Sta Z h0 "com/example/verdikt/verdikt/model/Decision" "DENY" "Lcom/example/verdikt/verdikt/model/Decision;" (.ref s2_DENY)) (E_s2_DENY : Exa Z h0 s2_DENY "com/example/verdikt/verdikt/model/Decision") (S_Decision_PERMIT : Sta Z h0 "com/example/verdikt/verdikt/model/Decision" "PERMIT" "Lcom/example/verdikt/verdikt/model/Decision;" (.ref s3_PERMIT)) (E_s3_PERMIT : Exa Z h0 s3_PERMIT "com/example/verdikt/verdikt/model/Decision") (S_ExtendedDecision_NOT_APPLICABLE : Sta Z h0 "com/example/verdikt/verdikt/model/ExtendedDecision" "NOT_APPLICABLE" "Lcom/example/verdikt/verdikt/model/ExtendedDecision;" (.ref s4_NOT_APPLICABLE)) (E_s4_NOT_APPLICABLE : Exa Z h0 s4_NOT_APPLICABLE "com/example/verdikt/verdikt/model/ExtendedDecision") (S_ExtendedDecision_INDETERMINATE_DP : Sta Z h0 "com/example/verdikt/verdikt/model/ExtendedDecision" "INDETERMINATE_DP" "Lcom/example/verdikt/verdikt/model/ExtendedDecision;" (.ref s5_INDETERMINATE_DP)) (E_s5_INDETERMINATE_DP : Exa Z h0 s5_INDETERMINATE_DP "com/example/verdikt/verdikt/model/ExtendedDecision") (S_ExtendedDecision_INDETERMINATE_D : Sta Z h0 "com/example/verdikt/verdikt/model/ExtendedDecision" "INDETERMINATE_D" "Lcom/example/verdikt/verdikt/model/ExtendedDecision;" (.ref s6_INDETERMINATE_D)) (E_s6_INDETERMINATE_D : Exa Z h0 s6_INDETERMINATE_D "com/example/verdikt/verdikt/model/ExtendedDecision") (S_ExtendedDecision_INDETERMINATE_P : Sta Z h0 "com/example/verdikt/verdikt/model/ExtendedDecision" "INDETERMINATE_P" "Lcom/example/verdikt/verdikt/model/ExtendedDecision;" (.ref s7_INDETERMINATE_P)) (E_s7_INDETERMINATE_P : Exa Z h0 s7_INDETERMINATE_P "com/example/verdikt/verdikt/model/ExtendedDecision") (S_Decision_INDETERMINATE : Sta Z h0 "com/example/verdikt/verdikt/model/Decision" "INDETERMINATE" "Lcom/example/verdikt/verdikt/model/Decision;" (.ref s8_INDETERMINATE)) (E_s8_INDETERMINATE : Exa Z h0 s8_INDETERMINATE "com/example/verdikt/verdikt/model/Decision") (S_Decision_NOT_APPLICABLE : Sta Z h0 "com/example/verdikt/verdikt/model/Decision" "NOT_APPLICABLE" "Lcom/example/verdikt/verdikt/model/Decision;" (.ref s9_NOT_APPLICABLE)) (E_s9_NOT_APPLICABLE : Exa Z h0 s9_NOT_APPLICABLE "com/example/verdikt/verdikt/model/Decision") (F_s0_PERMIT_ordinal : Fld Z h0 s0_PERMIT "java/lang/Enum" "ordinal" "I" (.int (0 : Int32))) (F_s1_DENY_ordinal : Fld Z h0 s1_DENY "java/lang/Enum" "ordinal" "I" (.int (1 : Int32))) (NE_s0_PERMIT_s1_DENY : s0_PERMIT ≠ s1_DENY) (F_s1_DENY_decision : Fld Z h0 s1_DENY "com/example/verdikt/verdikt/model/ExtendedDecision" "decision" "Lcom/example/verdikt/verdikt/model/Decision;" (.ref s2_DENY)) (F_s0_PERMIT_decision : Fld Z h0 s0_PERMIT "com/example/verdikt/verdikt/model/ExtendedDecision" "decision" "Lcom/example/verdikt/verdikt/model/Decision;" (.ref s3_PERMIT)) (F_s4_NOT_APPLICABLE_ordinal : Fld Z h0 s4_NOT_APPLICABLE "java/lang/Enum" "ordinal" "I" (.int (2 : Int32))) (NE_s0_PERMIT_s4_NOT_APPLICABLE : s0_PERMIT ≠ s4_NOT_APPLICABLE) (NE_s1_DENY_s4_NOT_APPLICABLE : s1_DENY ≠ s4_NOT_APPLICABLE) (F_s5_INDETERMINATE_DP_ordinal : Fld Z h0 s5_INDETERMINATE_DP "java/lang/Enum" "ordinal" "I" (.int (5 : Int32))) (NE_s0_PERMIT_s5_INDETERMINATE_DP : s0_PERMIT ≠ s5_INDETERMINATE_DP) (NE_s1_DENY_s5_INDETERMINATE_DP : s1_DENY ≠ s5_INDETERMINATE_DP) (NE_s4_NOT_APPLICABLE_s5_INDETERMINATE_DP : s4_NOT_APPLICABLE ≠ s5_INDETERMINATE_DP) (F_s6_INDETERMINATE_D_ordinal : Fld Z h0 s6_INDETERMINATE_D "java/lang/Enum" "ordinal" "I" (.int (3 : Int32))) (NE_s0_PERMIT_s6_INDETERMINATE_D : s0_PERMIT ≠ s6_INDETERMINATE_D) (NE_s1_DENY_s6_INDETERMINATE_D : s1_DENY ≠ s6_INDETERMINATE_D) (NE_s4_NOT_APPLICABLE_s6_INDETERMINATE_D : s4_NOT_APPLICABLE ≠ s6_INDETERMINATE_D) (NE_s5_INDETERMINATE_DP_s6_INDETERMINATE_D : s5_INDETERMINATE_DP ≠ s6_INDETERMINATE_D) (F_s7_INDETERMINATE_P_ordinal : Fld Z h0 s7_INDETERMINATE_P "java/lang/Enum" "ordinal" "I" (.int (4 : Int32))) (NE_s0_PERMIT_s7_INDETERMINATE_P : s0_PERMIT ≠ s7_INDETERMINATE_P) (NE_s1_DENY_s7_INDETERMINATE_P : s1_DENY ≠ s7_INDETERMINATE_P) (NE_s4_NOT_APPLICABLE_s7_INDETERMINATE_P : s4_NOT_APPLICABLE ≠ s7_INDETERMINATE_P) (NE_s5_INDETERMINATE_DP_s7_INDETERMINATE_P : s5_INDETERMINATE_DP ≠ s7_INDETERMINATE_P) (NE_s6_INDETERMINATE_D_s7_INDETERMINATE_P : s6_INDETERMINATE_D ≠ s7_INDETERMINATE_P) (F_s7_INDETERMINATE_P_decision : Fld Z h0 s7_INDETERMINATE_P "com/example/verdikt/verdikt/model/ExtendedDecision" "decision" "Lcom/example/verdikt/verdikt/model/Decision;" (.ref s8_INDETERMINATE)) (F_s6_INDETERMINATE_D_decision : Fld Z h0 s6_INDETERMINATE_D "com/example/verdikt/verdikt/model/ExtendedDecision" "decision" "Lcom/example/verdikt/verdikt/model/Decision;" (.ref s8_INDETERMINATE)) (F_s8_INDETERMINATE_ordinal : Fld Z h0 s8_INDETERMINATE "java/lang/Enum" "ordinal" "I" (.int (3 : Int32))) (F_s3_PERMIT_ordinal : Fld Z h0 s3_PERMIT "java/lang/Enum" "ordinal" "I" (.int (0 : Int32))) (NE_s8_INDETERMINATE_s3_PERMIT : s8_INDETERMINATE ≠ s3_PERMIT) (F_s2_DENY_ordinal : Fld Z h0 s2_DENY "java/lang/Enum" "ordinal" "I" (.int (1 : Int32))) (NE_s8_INDETERMINATE_s2_DENY : s8_INDETERMINATE ≠ s2_DENY) (NE_s3_PERMIT_s2_DENY : s3_PERMIT ≠ s2_DENY) (F_s4_NOT_APPLICABLE_decision : Fld Z h0 s4_NOT_APPLICABLE "com/example/verdikt/verdikt/model/ExtendedDecision" "decision" "Lcom/example/verdikt/verdikt/model/Decision;" (.ref s9_NOT_APPLICABLE)) (F_s9_NOT_APPLICABLE_ordinal : Fld Z h0 s9_NOT_APPLICABLE "java/lang/Enum" "ordinal" "I" (.int (2 : Int32))) (NE_s8_INDETERMINATE_s9_NOT_APPLICABLE : s8_INDETERMINATE ≠ s9_NOT_APPLICABLE) (NE_s3_PERMIT_s9_NOT_APPLICABLE : s3_PERMIT ≠ s9_NOT_APPLICABLE) (NE_s2_DENY_s9_NOT_APPLICABLE : s2_DENY ≠ s9_NOT_APPLICABLE) (F_s5_INDETERMINATE_DP_decision : Fld Z h0 s5_INDETERMINATE_DP "com/example/verdikt/verdikt/model/ExtendedDecision" "decision" "Lcom/example/verdikt/verdikt/model/Decision;" (.ref s8_INDETERMINATE)) :
    MetFree l x (head1 (Jvm.Cond.code x code maxLocals ret :: ws) room_1) (fun a U => a = #[(.int p1)] ∧ Z.Warmed39 U.vm ∧ U.heap = h0) (fun _ _ _ _ _ => True) (fun _ U o U' => ∃ v L, o = .returned v ∧ Q0 Z p1 s0_PERMIT s1_DENY s2_DENY s3_PERMIT s4_NOT_APPLICABLE s5_INDETERMINATE_DP s6_INDETERMINATE_D s7_INDETERMINATE_P s8_INDETERMINATE s9_NOT_APPLICABLE h0 n0 v U'.heap L ∧ FrameEnd U o U' L room_1.cells room_1.slots) := by
  refine MetFree.of_bodySF (plainFor_of_name pn_0) hisR ?_
  intro p e s m args below meth c s₁ Bd hml0 hP hK
  obtain ⟨rfl, hZ, hh⟩ := hP
  have hx := Bd.exec
  have hby := Bd.bytes
  have hml : c.maxLocals = 8 := hml0
  have hown : s.vm.findClass "com/example/verdikt/verdikt/model/ExtendedDecisionMirrorPinLaw" = some m.cls := findClass_of_methodNamed Bd.named
  have hnm := (name_of_methodNamed Bd.named Bd.method).1
  have X0 : Stand p l e room_1 s m #[(.int p1)] below meth c s₁ [] 0 0 := Stand.of_body Bd
  have e0 : s₁.heap = h0 := by rw [← hh, Bd.state]; rfl
  have N0 := Fr.nil n0
  have pre0 : ∀ t, Steps p.tables e below (s₁.setTop (mkF m 0 #[.val (.int p1), .unset, .unset, .unset, .unset, .unset, .unset, .unset] [])) t → Steps p.tables e below (s₁.setTop (entryFrame m #[(.int p1)] maxLocals)) t := fun t k => castTop (ef_0 m p1) k
  refine own_step (Q := fun o U' => ∃ v L, o = .returned v ∧ Q0 Z p1 s0_PERMIT s1_DENY s2_DENY s3_PERMIT s4_NOT_APPLICABLE s5_INDETERMINATE_DP s6_INDETERMINATE_D s7_INDETERMINATE_P s8_INDETERMINATE s9_NOT_APPLICABLE h0 n0 v U'.heap L ∧ FrameEnd s o U' L room_1.cells room_1.slots) pre0 ?_
  have K0 : Keep h0 h0 [] := Keep.refl h0 []
  refine own_step (B := s₁.setTop (mkF m 8 #[.val (.int p1), .val (.int (f0_0 p1 s0_PERMIT s1_DENY s2_DENY s3_PERMIT s4_NOT_APPLICABLE s5_INDETERMINATE_DP s6_INDETERMINATE_D s7_INDETERMINATE_P s8_INDETERMINATE s9_NOT_APPLICABLE)), .unset, .unset, .unset, .unset, .unset, .unset] [])) (fun t k => ?_) ?_
  · show Steps p.tables e below (s₁.setTop (mkF m 0 #[.val (.int p1), .unset, .unset, .unset, .unset, .unset, .unset, .unset] [])) _
    refine XS.iloadN X0.here hx rfl (hb hby at_0) rfl ?_
    show Steps p.tables e below (s₁.setTop (mkF m 1 #[.val (.int p1), .unset, .unset, .unset, .unset, .unset, .unset, .unset] [(.int p1)])) _
    refine X0.ldcInt hx hown (mvT hZ (hw _ (List.mem_of_getElem? (i := 0) rfl))) (g := (mkF m 1 #[.val (.int p1), .unset, .unset, .unset, .unset, .unset, .unset, .unset] [(.int p1)])) rfl (hb hby at_1) _ ?_
    show Steps p.tables e below (s₁.setTop (mkF m 3 #[.val (.int p1), .unset, .unset, .unset, .unset, .unset, .unset, .unset] [(.int (2147483647 : Int32)), (.int p1)])) _
    refine XS.iand X0.here hx rfl (hb hby at_3) rfl ?_
    show Steps p.tables e below (s₁.setTop (mkF m 4 #[.val (.int p1), .unset, .unset, .unset, .unset, .unset, .unset, .unset] [(.int (p1 &&& (2147483647 : Int32)))])) _
    refine XS.bipush X0.here hx rfl (hb hby at_4) ?_
    show Steps p.tables e below (s₁.setTop (mkF m 6 #[.val (.int p1), .unset, .unset, .unset, .unset, .unset, .unset, .unset] [(.int (6 : Int32)), (.int (p1 &&& (2147483647 : Int32)))])) _
    refine XS.irem X0.here hx rfl (hb hby at_6) rfl (by decide) ?_
    show Steps p.tables e below (s₁.setTop (mkF m 7 #[.val (.int p1), .unset, .unset, .unset, .unset, .unset, .unset, .unset] [(.int (f0_0 p1 s0_PERMIT s1_DENY s2_DENY s3_PERMIT s4_NOT_APPLICABLE s5_INDETERMINATE_DP s6_INDETERMINATE_D s7_INDETERMINATE_P s8_INDETERMINATE s9_NOT_APPLICABLE))])) _
    refine XS.istoreN X0.here hx rfl (hb hby at_7) rfl (l' := #[.val (.int p1), .val (.int (f0_0 p1 s0_PERMIT s1_DENY s2_DENY s3_PERMIT s4_NOT_APPLICABLE s5_INDETERMINATE_DP s6_INDETERMINATE_D s7_INDETERMINATE_P s8_INDETERMINATE s9_NOT_APPLICABLE)), .unset, .unset, .unset, .unset, .unset, .unset]) rfl ?_
    exact k
  rcases own_m6 p1 with hk1 | hk1 | hk1 | hk1 | hk1 | hk1
  · rw [hk1]
    obtain ⟨_, _, ⟨T2, L2, k2, n2⟩, -, X2, ⟨Lc2, hQ2, l2, y2, z2⟩, st2⟩ := Jvm.LawKit.callS X0 hx (y := (⟨"com/example/verdikt/verdikt/model/ExtendedDecisionMirrorPinLaw", "pick", "(I)Lcom/example/verdikt/verdikt/model/ExtendedDecision;"⟩ : MethodName)) hown (mvT hZ (hw _ (List.mem_of_getElem? (i := 1) rfl))) (mvT hZ (hw _ (List.mem_of_getElem? (i := 2) rfl))) (mvT hZ (hw _ (List.mem_of_getElem? (i := 3) rfl))) (mvT hZ (hw _ (List.mem_of_getElem? (i := 4) rfl))) (by decide) (backOf (W := 0) (rm1 l Z a0 hw [] (0 : Int32) s0_PERMIT s1_DENY s4_NOT_APPLICABLE s5_INDETERMINATE_DP s6_INDETERMINATE_D s7_INDETERMINATE_P h0 n0 Z0 S_ExtendedDecision_PERMIT S_ExtendedDecision_DENY S_ExtendedDecision_NOT_APPLICABLE S_ExtendedDecision_INDETERMINATE_DP S_ExtendedDecision_INDETERMINATE_D S_ExtendedDecision_INDETERMINATE_P) hZ (hw _ (List.mem_of_getElem? (i := 4) rfl)) (hw _ (List.mem_of_getElem? (i := 3) rfl)) (by decide) (by decide)) (g := (mkF m 9 #[.val (.int p1), .val (.int (0 : Int32)), .unset, .unset, .unset, .unset, .unset, .unset] [(.int (0 : Int32))])) rfl (by rw [hml]; rfl) (argsL := [(.int (0 : Int32))]) (rest := []) (lenOf pd_1 rfl) rfl (by show 2 * 0 + _ ≤ _; exact Nat.le_of_eq rfl) (hb hby at_9) (fun _ _ => ⟨rfl, e0, (by decide : 0 + 0 ≤ _), (by decide : 0 + 0 ≤ _)⟩)
    dsimp only [Pt.U, Pt.locs, Pt.cells, Pt.slots] at X2 l2 y2 z2 st2 hQ2
    subst l2 y2 z2
    obtain ⟨hv2, N2q, e2⟩ := hQ2
    rw [show f1 (0 : Int32) s0_PERMIT s1_DENY s4_NOT_APPLICABLE s5_INDETERMINATE_DP s6_INDETERMINATE_D s7_INDETERMINATE_P = s0_PERMIT from if_pos (by decide)] at hv2
    subst hv2
    have N2 := Fr.app N0 N2q
    obtain ⟨cq3, kq3, q3a, q3b, q3c⟩ := isOf hZ e2 E_s0_PERMIT
    obtain ⟨_, _, ⟨T3, L3, k3, n3⟩, -, X3, ⟨Lc3, hQ3, l3, y3, z3⟩, st3⟩ := X2.virtualBack hx (y := (⟨"com/example/verdikt/verdikt/model/ExtendedDecision", "mirror", "()Lcom/example/verdikt/verdikt/model/ExtendedDecision;"⟩ : MethodName)) (z := (⟨"com/example/verdikt/verdikt/model/ExtendedDecision", "mirror", "()Lcom/example/verdikt/verdikt/model/ExtendedDecision;"⟩ : MethodName)) hown (mvT hZ (hw _ (List.mem_of_getElem? (i := 8) rfl))) (mvT hZ (hw _ (List.mem_of_getElem? (i := 9) rfl))) (notFace_of_selects (args := #[]) (mvT hZ (hw _ (List.mem_of_getElem? (i := 11) rfl)))) (mvT hZ (hw _ (List.mem_of_getElem? (i := 11) rfl))) (mvT hZ (hw _ (List.mem_of_getElem? (i := 10) rfl))) (by decide) (backOf (W := 0) (rmm0 l Z a0 hw [] s0_PERMIT s0_PERMIT s1_DENY s4_NOT_APPLICABLE s5_INDETERMINATE_DP s6_INDETERMINATE_D s7_INDETERMINATE_P h0 n0 Z0 E_s0_PERMIT F_s0_PERMIT_ordinal S_ExtendedDecision_PERMIT S_ExtendedDecision_DENY S_ExtendedDecision_NOT_APPLICABLE S_ExtendedDecision_INDETERMINATE_DP S_ExtendedDecision_INDETERMINATE_D S_ExtendedDecision_INDETERMINATE_P) hZ (hw _ (List.mem_of_getElem? (i := 12) rfl)) (hw _ (List.mem_of_getElem? (i := 6) rfl)) (by decide) (by decide)) q3a q3c (g := (mkF m 14 #[.val (.int p1), .val (.int (0 : Int32)), .val (.ref s0_PERMIT), .unset, .unset, .unset, .unset, .unset] [(.ref s0_PERMIT)])) rfl (by rw [hml]; rfl) (Steps.refl _) (argsL := []) (rest := []) (lenOf pd_2 rfl) rfl (by show 2 * 0 + _ ≤ _; exact Nat.le_of_eq rfl) (hb hby at_14) (fun _ _ => ⟨rfl, e2, (by decide : 0 + 0 ≤ _), (by decide : 0 + 0 ≤ _)⟩)
    dsimp only [Pt.U, Pt.locs, Pt.cells, Pt.slots] at X3 l3 y3 z3 st3 hQ3
    subst l3 y3 z3
    obtain ⟨hv3, N3q, e3⟩ := hQ3
    rw [show fm0 s0_PERMIT s0_PERMIT s1_DENY s4_NOT_APPLICABLE s5_INDETERMINATE_DP s6_INDETERMINATE_D s7_INDETERMINATE_P = s1_DENY from rfl] at hv3
    subst hv3
    have N3 := Fr.app N2 N3q
    obtain ⟨cq4, kq4, q4a, q4b, q4c⟩ := isOf hZ e3 E_s1_DENY
    obtain ⟨_, _, ⟨T4, L4, k4, n4⟩, -, X4, ⟨Lc4, hQ4, l4, y4, z4⟩, st4⟩ := X3.virtualBack hx (y := (⟨"com/example/verdikt/verdikt/model/ExtendedDecision", "mirror", "()Lcom/example/verdikt/verdikt/model/ExtendedDecision;"⟩ : MethodName)) (z := (⟨"com/example/verdikt/verdikt/model/ExtendedDecision", "mirror", "()Lcom/example/verdikt/verdikt/model/ExtendedDecision;"⟩ : MethodName)) hown (mvT hZ (hw _ (List.mem_of_getElem? (i := 8) rfl))) (mvT hZ (hw _ (List.mem_of_getElem? (i := 9) rfl))) (notFace_of_selects (args := #[]) (mvT hZ (hw _ (List.mem_of_getElem? (i := 11) rfl)))) (mvT hZ (hw _ (List.mem_of_getElem? (i := 11) rfl))) (mvT hZ (hw _ (List.mem_of_getElem? (i := 10) rfl))) (by decide) (backOf (W := 0) (rmm1 l Z a0 hw [] s1_DENY s0_PERMIT s1_DENY s4_NOT_APPLICABLE s5_INDETERMINATE_DP s6_INDETERMINATE_D s7_INDETERMINATE_P h0 n0 Z0 E_s1_DENY F_s1_DENY_ordinal S_ExtendedDecision_PERMIT S_ExtendedDecision_DENY S_ExtendedDecision_NOT_APPLICABLE S_ExtendedDecision_INDETERMINATE_DP S_ExtendedDecision_INDETERMINATE_D S_ExtendedDecision_INDETERMINATE_P) hZ (hw _ (List.mem_of_getElem? (i := 12) rfl)) (hw _ (List.mem_of_getElem? (i := 6) rfl)) (by decide) (by decide)) q4a q4c (g := (mkF m 25 #[.val (.int p1), .val (.int (0 : Int32)), .val (.ref s0_PERMIT), .val (.ref s1_DENY), .unset, .unset, .unset, .unset] [(.ref s1_DENY)])) rfl (by rw [hml]; rfl) (Steps.refl _) (argsL := []) (rest := []) (lenOf pd_2 rfl) rfl (by show 2 * 0 + _ ≤ _; exact Nat.le_of_eq rfl) (hb hby at_25) (fun _ _ => ⟨rfl, e3, (by decide : 0 + 0 ≤ _), (by decide : 0 + 0 ≤ _)⟩)
    dsimp only [Pt.U, Pt.locs, Pt.cells, Pt.slots] at X4 l4 y4 z4 st4 hQ4
    subst l4 y4 z4
    obtain ⟨hv4, N4q, e4⟩ := hQ4
    rw [show fm1 s1_DENY s0_PERMIT s1_DENY s4_NOT_APPLICABLE s5_INDETERMINATE_DP s6_INDETERMINATE_D s7_INDETERMINATE_P = s0_PERMIT from rfl] at hv4
    subst hv4
    have N4 := Fr.app N3 N4q
    obtain ⟨cq5, kq5, q5a, q5b, q5c⟩ := isOf hZ e4 E_s1_DENY
    obtain ⟨_, _, ⟨T5, L5, k5, n5⟩, -, X5, ⟨Lc5, hQ5, l5, y5, z5⟩, st5⟩ := X4.virtualBack hx (y := (⟨"com/example/verdikt/verdikt/model/ExtendedDecision", "decision", "()Lcom/example/verdikt/verdikt/model/Decision;"⟩ : MethodName)) (z := (⟨"com/example/verdikt/verdikt/model/ExtendedDecision", "decision", "()Lcom/example/verdikt/verdikt/model/Decision;"⟩ : MethodName)) hown (mvT hZ (hw _ (List.mem_of_getElem? (i := 25) rfl))) (mvT hZ (hw _ (List.mem_of_getElem? (i := 26) rfl))) (notFace_of_selects (args := #[]) (mvT hZ (hw _ (List.mem_of_getElem? (i := 28) rfl)))) (mvT hZ (hw _ (List.mem_of_getElem? (i := 28) rfl))) (mvT hZ (hw _ (List.mem_of_getElem? (i := 27) rfl))) (by decide) (backOf (W := 0) (rm4 l Z a0 hw [] s1_DENY s2_DENY h0 n0 Z0 F_s1_DENY_decision) hZ (hw _ (List.mem_of_getElem? (i := 29) rfl)) (hw _ (List.mem_of_getElem? (i := 6) rfl)) (by decide) (by decide)) q5a q5c (g := (mkF m 40 #[.val (.int p1), .val (.int (0 : Int32)), .val (.ref s0_PERMIT), .val (.ref s1_DENY), .val (.int (1 : Int32)), .unset, .unset, .unset] [(.ref s1_DENY)])) rfl (by rw [hml]; rfl) (Steps.refl _) (argsL := []) (rest := []) (lenOf pd_3 rfl) rfl (by show 2 * 0 + _ ≤ _; exact Nat.le_of_eq rfl) (hb hby at_40) (fun _ _ => ⟨rfl, e4, (by decide : 0 + 0 ≤ _), (by decide : 0 + 0 ≤ _)⟩)
    dsimp only [Pt.U, Pt.locs, Pt.cells, Pt.slots] at X5 l5 y5 z5 st5 hQ5
    subst l5 y5 z5
    obtain ⟨hv5, N5q, e5⟩ := hQ5
    rw [show f4 s1_DENY s2_DENY = s2_DENY from rfl] at hv5
    subst hv5
    have N5 := Fr.app N4 N5q
    obtain ⟨cq6, kq6, q6a, q6b, q6c⟩ := isOf hZ e5 E_s0_PERMIT
    obtain ⟨_, _, ⟨T6, L6, k6, n6⟩, -, X6, ⟨Lc6, hQ6, l6, y6, z6⟩, st6⟩ := X5.virtualBack hx (y := (⟨"com/example/verdikt/verdikt/model/ExtendedDecision", "decision", "()Lcom/example/verdikt/verdikt/model/Decision;"⟩ : MethodName)) (z := (⟨"com/example/verdikt/verdikt/model/ExtendedDecision", "decision", "()Lcom/example/verdikt/verdikt/model/Decision;"⟩ : MethodName)) hown (mvT hZ (hw _ (List.mem_of_getElem? (i := 25) rfl))) (mvT hZ (hw _ (List.mem_of_getElem? (i := 26) rfl))) (notFace_of_selects (args := #[]) (mvT hZ (hw _ (List.mem_of_getElem? (i := 28) rfl)))) (mvT hZ (hw _ (List.mem_of_getElem? (i := 28) rfl))) (mvT hZ (hw _ (List.mem_of_getElem? (i := 27) rfl))) (by decide) (backOf (W := 1) (rm4 l Z a0 hw [] s0_PERMIT s3_PERMIT h0 n0 Z0 F_s0_PERMIT_decision) hZ (hw _ (List.mem_of_getElem? (i := 29) rfl)) (hw _ (List.mem_of_getElem? (i := 6) rfl)) (by decide) (by decide)) q6a q6c (g := (mkF m 44 #[.val (.int p1), .val (.int (0 : Int32)), .val (.ref s0_PERMIT), .val (.ref s1_DENY), .val (.int (1 : Int32)), .unset, .unset, .unset] [(.ref s0_PERMIT), (.ref s2_DENY)])) rfl (by rw [hml]; rfl) (Steps.refl _) (argsL := []) (rest := [(.ref s2_DENY)]) (lenOf pd_3 rfl) rfl (by show 2 * 0 + _ ≤ _; exact Nat.le_of_eq rfl) (hb hby at_44) (fun _ _ => ⟨rfl, e5, (by decide : 0 + 0 ≤ _), (by decide : 0 + 0 ≤ _)⟩)
    dsimp only [Pt.U, Pt.locs, Pt.cells, Pt.slots] at X6 l6 y6 z6 st6 hQ6
    subst l6 y6 z6
    obtain ⟨hv6, N6q, e6⟩ := hQ6
    rw [show f4 s0_PERMIT s3_PERMIT = s3_PERMIT from rfl] at hv6
    subst hv6
    have N6 := Fr.app N5 N6q
    obtain ⟨_, _, ⟨T7, L7, k7, n7⟩, -, X7, ⟨Lc7, hQ7, l7, y7, z7⟩, st7⟩ := Jvm.LawKit.callS X6 hx (y := (⟨"com/example/verdikt/verdikt/model/ExtendedDecisionMirrorPinLaw", "swap", "(Lcom/example/verdikt/verdikt/model/Decision;)Lcom/example/verdikt/verdikt/model/Decision;"⟩ : MethodName)) hown (mvT hZ (hw _ (List.mem_of_getElem? (i := 35) rfl))) (mvT hZ (hw _ (List.mem_of_getElem? (i := 36) rfl))) (mvT hZ (hw _ (List.mem_of_getElem? (i := 3) rfl))) (mvT hZ (hw _ (List.mem_of_getElem? (i := 37) rfl))) (by decide) (backOf (W := 1) (rm5 l Z a0 hw [] s3_PERMIT s2_DENY s3_PERMIT s8_INDETERMINATE s9_NOT_APPLICABLE h0 n0 Z0 S_Decision_DENY S_Decision_PERMIT S_Decision_INDETERMINATE S_Decision_NOT_APPLICABLE) hZ (hw _ (List.mem_of_getElem? (i := 37) rfl)) (hw _ (List.mem_of_getElem? (i := 3) rfl)) (by decide) (by decide)) (g := (mkF m 47 #[.val (.int p1), .val (.int (0 : Int32)), .val (.ref s0_PERMIT), .val (.ref s1_DENY), .val (.int (1 : Int32)), .unset, .unset, .unset] [(.ref s3_PERMIT), (.ref s2_DENY)])) rfl (by rw [hml]; rfl) (argsL := [(.ref s3_PERMIT)]) (rest := [(.ref s2_DENY)]) (lenOf pd_4 rfl) rfl (by show 2 * 0 + _ ≤ _; exact Nat.le_of_eq rfl) (hb hby at_47) (fun _ _ => ⟨rfl, e6, (by decide : 0 + 0 ≤ _), (by decide : 0 + 0 ≤ _)⟩)
    dsimp only [Pt.U, Pt.locs, Pt.cells, Pt.slots] at X7 l7 y7 z7 st7 hQ7
    subst l7 y7 z7
    obtain ⟨hv7, N7q, e7⟩ := hQ7
    rw [show f5 s3_PERMIT s2_DENY s3_PERMIT s8_INDETERMINATE s9_NOT_APPLICABLE = s2_DENY from if_pos rfl] at hv7
    subst hv7
    have N7 := Fr.app N6 N7q
    obtain ⟨T8, X8, e8, st8⟩ := getS X7 hx hZ (host := "") hown (hw _ (List.mem_of_getElem? (i := 40) rfl)) Via.refl e7 S_ExtendedDecision_NOT_APPLICABLE (g := (mkF m 61 #[.val (.int p1), .val (.int (0 : Int32)), .val (.ref s0_PERMIT), .val (.ref s1_DENY), .val (.int (1 : Int32)), .val (.int (1 : Int32)), .unset, .unset] [(.ref s0_PERMIT)])) rfl (hb hby at_61)
    obtain ⟨T9, X9, e9, st9⟩ := getS X8 hx hZ (host := "") hown (hw _ (List.mem_of_getElem? (i := 42) rfl)) Via.refl e8 S_ExtendedDecision_INDETERMINATE_DP (g := (mkF m 68 #[.val (.int p1), .val (.int (0 : Int32)), .val (.ref s0_PERMIT), .val (.ref s1_DENY), .val (.int (1 : Int32)), .val (.int (1 : Int32)), .unset, .unset] [(.ref s0_PERMIT)])) rfl (hb hby at_68)
    have h10 : (0 : Int32) = (0 : Int32) := by decide
    have h11 : ¬ ((1 : Int32) = (0 : Int32)) := by decide
    have h12 : ¬ ((1 : Int32) = (0 : Int32)) := by decide
    have h13 : ¬ ((1 : Int32) = (0 : Int32)) := by decide
    obtain ⟨fs, hr, hrun, hended, hW, hsame⟩ := X9.leave (v := some (.int (1 : Int32))) (fun h => by rw [Bd.returns] at h; cases h)
    refine ⟨_, _, ?_, hrun, hended, _, _, rfl, ?_, ⟨_, rfl⟩, hW, hsame.mono (by decide) (by decide)⟩
    · show Steps p.tables e below (s₁.setTop (mkF m 8 #[.val (.int p1), .val (.int (0 : Int32)), .unset, .unset, .unset, .unset, .unset, .unset] [])) _
      refine XS.iloadN X0.here hx rfl (hb hby at_8) rfl ?_
      show Steps p.tables e below (s₁.setTop (mkF m 9 #[.val (.int p1), .val (.int (0 : Int32)), .unset, .unset, .unset, .unset, .unset, .unset] [(.int (0 : Int32))])) _
      refine st2 _ ?_
      show Steps p.tables e below (T2.setTop (mkF m 12 #[.val (.int p1), .val (.int (0 : Int32)), .unset, .unset, .unset, .unset, .unset, .unset] [(.ref s0_PERMIT)])) _
      refine XS.astoreN X2.here hx rfl (hb hby at_12) rfl rfl (l' := #[.val (.int p1), .val (.int (0 : Int32)), .val (.ref s0_PERMIT), .unset, .unset, .unset, .unset, .unset]) rfl ?_
      show Steps p.tables e below (T2.setTop (mkF m 13 #[.val (.int p1), .val (.int (0 : Int32)), .val (.ref s0_PERMIT), .unset, .unset, .unset, .unset, .unset] [])) _
      refine XS.aloadN X2.here hx rfl (hb hby at_13) rfl rfl ?_
      show Steps p.tables e below (T2.setTop (mkF m 14 #[.val (.int p1), .val (.int (0 : Int32)), .val (.ref s0_PERMIT), .unset, .unset, .unset, .unset, .unset] [(.ref s0_PERMIT)])) _
      refine st3.trans ?_
      show Steps p.tables e below (T3.setTop (mkF m 17 #[.val (.int p1), .val (.int (0 : Int32)), .val (.ref s0_PERMIT), .unset, .unset, .unset, .unset, .unset] [(.ref s1_DENY)])) _
      refine XS.astoreN X3.here hx rfl (hb hby at_17) rfl rfl (l' := #[.val (.int p1), .val (.int (0 : Int32)), .val (.ref s0_PERMIT), .val (.ref s1_DENY), .unset, .unset, .unset, .unset]) rfl ?_
      show Steps p.tables e below (T3.setTop (mkF m 18 #[.val (.int p1), .val (.int (0 : Int32)), .val (.ref s0_PERMIT), .val (.ref s1_DENY), .unset, .unset, .unset, .unset] [])) _
      refine XS.aloadN X3.here hx rfl (hb hby at_18) rfl rfl ?_
      show Steps p.tables e below (T3.setTop (mkF m 19 #[.val (.int p1), .val (.int (0 : Int32)), .val (.ref s0_PERMIT), .val (.ref s1_DENY), .unset, .unset, .unset, .unset] [(.ref s1_DENY)])) _
      refine XT.ifnonnullYes X3.here hx rfl (pc0 := 19) (pc' := 24) rfl (hb hby at_19) rfl (by decide) (by decide) ?_
      show Steps p.tables e below (T3.setTop (mkF m 24 #[.val (.int p1), .val (.int (0 : Int32)), .val (.ref s0_PERMIT), .val (.ref s1_DENY), .unset, .unset, .unset, .unset] [])) _
      refine XS.aloadN X3.here hx rfl (hb hby at_24) rfl rfl ?_
      show Steps p.tables e below (T3.setTop (mkF m 25 #[.val (.int p1), .val (.int (0 : Int32)), .val (.ref s0_PERMIT), .val (.ref s1_DENY), .unset, .unset, .unset, .unset] [(.ref s1_DENY)])) _
      refine st4.trans ?_
      show Steps p.tables e below (T4.setTop (mkF m 28 #[.val (.int p1), .val (.int (0 : Int32)), .val (.ref s0_PERMIT), .val (.ref s1_DENY), .unset, .unset, .unset, .unset] [(.ref s0_PERMIT)])) _
      refine XS.aloadN X4.here hx rfl (hb hby at_28) rfl rfl ?_
      show Steps p.tables e below (T4.setTop (mkF m 29 #[.val (.int p1), .val (.int (0 : Int32)), .val (.ref s0_PERMIT), .val (.ref s1_DENY), .unset, .unset, .unset, .unset] [(.ref s0_PERMIT), (.ref s0_PERMIT)])) _
      refine XT.acmpNo X4.here hx rfl (hb hby at_29) rfl rfl rfl (own_aT rfl).2 ?_
      show Steps p.tables e below (T4.setTop (mkF m 32 #[.val (.int p1), .val (.int (0 : Int32)), .val (.ref s0_PERMIT), .val (.ref s1_DENY), .unset, .unset, .unset, .unset] [])) _
      refine XS.iconst X4.here hx rfl (hb hby at_32) ?_
      show Steps p.tables e below (T4.setTop (mkF m 33 #[.val (.int p1), .val (.int (0 : Int32)), .val (.ref s0_PERMIT), .val (.ref s1_DENY), .unset, .unset, .unset, .unset] [(.int (1 : Int32))])) _
      refine XS.goto X4.here hx rfl (pc0 := 33) (pc' := 37) rfl (hb hby at_33) (by decide) (by decide) ?_
      show Steps p.tables e below (T4.setTop (mkF m 37 #[.val (.int p1), .val (.int (0 : Int32)), .val (.ref s0_PERMIT), .val (.ref s1_DENY), .unset, .unset, .unset, .unset] [(.int (1 : Int32))])) _
      refine XS.istore X4.here hx rfl (hb hby at_37) rfl (l' := #[.val (.int p1), .val (.int (0 : Int32)), .val (.ref s0_PERMIT), .val (.ref s1_DENY), .val (.int (1 : Int32)), .unset, .unset, .unset]) rfl ?_
      show Steps p.tables e below (T4.setTop (mkF m 39 #[.val (.int p1), .val (.int (0 : Int32)), .val (.ref s0_PERMIT), .val (.ref s1_DENY), .val (.int (1 : Int32)), .unset, .unset, .unset] [])) _
      refine XS.aloadN X4.here hx rfl (hb hby at_39) rfl rfl ?_
      show Steps p.tables e below (T4.setTop (mkF m 40 #[.val (.int p1), .val (.int (0 : Int32)), .val (.ref s0_PERMIT), .val (.ref s1_DENY), .val (.int (1 : Int32)), .unset, .unset, .unset] [(.ref s1_DENY)])) _
      refine st5.trans ?_
      show Steps p.tables e below (T5.setTop (mkF m 43 #[.val (.int p1), .val (.int (0 : Int32)), .val (.ref s0_PERMIT), .val (.ref s1_DENY), .val (.int (1 : Int32)), .unset, .unset, .unset] [(.ref s2_DENY)])) _
      refine XS.aloadN X5.here hx rfl (hb hby at_43) rfl rfl ?_
      show Steps p.tables e below (T5.setTop (mkF m 44 #[.val (.int p1), .val (.int (0 : Int32)), .val (.ref s0_PERMIT), .val (.ref s1_DENY), .val (.int (1 : Int32)), .unset, .unset, .unset] [(.ref s0_PERMIT), (.ref s2_DENY)])) _
      refine st6.trans ?_
      show Steps p.tables e below (T6.setTop (mkF m 47 #[.val (.int p1), .val (.int (0 : Int32)), .val (.ref s0_PERMIT), .val (.ref s1_DENY), .val (.int (1 : Int32)), .unset, .unset, .unset] [(.ref s3_PERMIT), (.ref s2_DENY)])) _
      refine st7 _ ?_
      show Steps p.tables e below (T7.setTop (mkF m 50 #[.val (.int p1), .val (.int (0 : Int32)), .val (.ref s0_PERMIT), .val (.ref s1_DENY), .val (.int (1 : Int32)), .unset, .unset, .unset] [(.ref s2_DENY), (.ref s2_DENY)])) _
      refine XT.acmpNo X7.here hx rfl (hb hby at_50) rfl rfl rfl (own_aT rfl).2 ?_
      show Steps p.tables e below (T7.setTop (mkF m 53 #[.val (.int p1), .val (.int (0 : Int32)), .val (.ref s0_PERMIT), .val (.ref s1_DENY), .val (.int (1 : Int32)), .unset, .unset, .unset] [])) _
      refine XS.iconst X7.here hx rfl (hb hby at_53) ?_
      show Steps p.tables e below (T7.setTop (mkF m 54 #[.val (.int p1), .val (.int (0 : Int32)), .val (.ref s0_PERMIT), .val (.ref s1_DENY), .val (.int (1 : Int32)), .unset, .unset, .unset] [(.int (1 : Int32))])) _
      refine XS.goto X7.here hx rfl (pc0 := 54) (pc' := 58) rfl (hb hby at_54) (by decide) (by decide) ?_
      show Steps p.tables e below (T7.setTop (mkF m 58 #[.val (.int p1), .val (.int (0 : Int32)), .val (.ref s0_PERMIT), .val (.ref s1_DENY), .val (.int (1 : Int32)), .unset, .unset, .unset] [(.int (1 : Int32))])) _
      refine XS.istore X7.here hx rfl (hb hby at_58) rfl (l' := #[.val (.int p1), .val (.int (0 : Int32)), .val (.ref s0_PERMIT), .val (.ref s1_DENY), .val (.int (1 : Int32)), .val (.int (1 : Int32)), .unset, .unset]) rfl ?_
      show Steps p.tables e below (T7.setTop (mkF m 60 #[.val (.int p1), .val (.int (0 : Int32)), .val (.ref s0_PERMIT), .val (.ref s1_DENY), .val (.int (1 : Int32)), .val (.int (1 : Int32)), .unset, .unset] [])) _
      refine XS.aloadN X7.here hx rfl (hb hby at_60) rfl rfl ?_
      show Steps p.tables e below (T7.setTop (mkF m 61 #[.val (.int p1), .val (.int (0 : Int32)), .val (.ref s0_PERMIT), .val (.ref s1_DENY), .val (.int (1 : Int32)), .val (.int (1 : Int32)), .unset, .unset] [(.ref s0_PERMIT)])) _
      refine st8 _ ?_
      show Steps p.tables e below (T8.setTop (mkF m 64 #[.val (.int p1), .val (.int (0 : Int32)), .val (.ref s0_PERMIT), .val (.ref s1_DENY), .val (.int (1 : Int32)), .val (.int (1 : Int32)), .unset, .unset] [(.ref s4_NOT_APPLICABLE), (.ref s0_PERMIT)])) _
      refine XT.acmpNo X8.here hx rfl (hb hby at_64) rfl rfl rfl (own_aF NE_s0_PERMIT_s4_NOT_APPLICABLE).1 ?_
      show Steps p.tables e below (T8.setTop (mkF m 67 #[.val (.int p1), .val (.int (0 : Int32)), .val (.ref s0_PERMIT), .val (.ref s1_DENY), .val (.int (1 : Int32)), .val (.int (1 : Int32)), .unset, .unset] [])) _
      refine XS.aloadN X8.here hx rfl (hb hby at_67) rfl rfl ?_
      show Steps p.tables e below (T8.setTop (mkF m 68 #[.val (.int p1), .val (.int (0 : Int32)), .val (.ref s0_PERMIT), .val (.ref s1_DENY), .val (.int (1 : Int32)), .val (.int (1 : Int32)), .unset, .unset] [(.ref s0_PERMIT)])) _
      refine st9 _ ?_
      show Steps p.tables e below (T9.setTop (mkF m 71 #[.val (.int p1), .val (.int (0 : Int32)), .val (.ref s0_PERMIT), .val (.ref s1_DENY), .val (.int (1 : Int32)), .val (.int (1 : Int32)), .unset, .unset] [(.ref s5_INDETERMINATE_DP), (.ref s0_PERMIT)])) _
      refine XT.acmpYes X9.here hx rfl (pc0 := 71) (pc' := 78) rfl (hb hby at_71) rfl rfl rfl (own_aF NE_s0_PERMIT_s5_INDETERMINATE_DP).2 (by decide) (by decide) ?_
      show Steps p.tables e below (T9.setTop (mkF m 78 #[.val (.int p1), .val (.int (0 : Int32)), .val (.ref s0_PERMIT), .val (.ref s1_DENY), .val (.int (1 : Int32)), .val (.int (1 : Int32)), .unset, .unset] [])) _
      refine XS.iconst X9.here hx rfl (hb hby at_78) ?_
      show Steps p.tables e below (T9.setTop (mkF m 79 #[.val (.int p1), .val (.int (0 : Int32)), .val (.ref s0_PERMIT), .val (.ref s1_DENY), .val (.int (1 : Int32)), .val (.int (1 : Int32)), .unset, .unset] [(.int (0 : Int32))])) _
      refine XS.istore X9.here hx rfl (hb hby at_79) rfl (l' := #[.val (.int p1), .val (.int (0 : Int32)), .val (.ref s0_PERMIT), .val (.ref s1_DENY), .val (.int (1 : Int32)), .val (.int (1 : Int32)), .val (.int (0 : Int32)), .unset]) rfl ?_
      show Steps p.tables e below (T9.setTop (mkF m 81 #[.val (.int p1), .val (.int (0 : Int32)), .val (.ref s0_PERMIT), .val (.ref s1_DENY), .val (.int (1 : Int32)), .val (.int (1 : Int32)), .val (.int (0 : Int32)), .unset] [])) _
      refine XS.aloadN X9.here hx rfl (hb hby at_81) rfl rfl ?_
      show Steps p.tables e below (T9.setTop (mkF m 82 #[.val (.int p1), .val (.int (0 : Int32)), .val (.ref s0_PERMIT), .val (.ref s1_DENY), .val (.int (1 : Int32)), .val (.int (1 : Int32)), .val (.int (0 : Int32)), .unset] [(.ref s1_DENY)])) _
      refine XS.aloadN X9.here hx rfl (hb hby at_82) rfl rfl ?_
      show Steps p.tables e below (T9.setTop (mkF m 83 #[.val (.int p1), .val (.int (0 : Int32)), .val (.ref s0_PERMIT), .val (.ref s1_DENY), .val (.int (1 : Int32)), .val (.int (1 : Int32)), .val (.int (0 : Int32)), .unset] [(.ref s0_PERMIT), (.ref s1_DENY)])) _
      refine XT.acmpYes X9.here hx rfl (pc0 := 83) (pc' := 90) rfl (hb hby at_83) rfl rfl rfl (own_aF (Ne.symm NE_s0_PERMIT_s1_DENY)).2 (by decide) (by decide) ?_
      show Steps p.tables e below (T9.setTop (mkF m 90 #[.val (.int p1), .val (.int (0 : Int32)), .val (.ref s0_PERMIT), .val (.ref s1_DENY), .val (.int (1 : Int32)), .val (.int (1 : Int32)), .val (.int (0 : Int32)), .unset] [])) _
      refine XS.iconst X9.here hx rfl (hb hby at_90) ?_
      show Steps p.tables e below (T9.setTop (mkF m 91 #[.val (.int p1), .val (.int (0 : Int32)), .val (.ref s0_PERMIT), .val (.ref s1_DENY), .val (.int (1 : Int32)), .val (.int (1 : Int32)), .val (.int (0 : Int32)), .unset] [(.int (0 : Int32))])) _
      refine XS.iload X9.here hx rfl (hb hby at_91) rfl ?_
      show Steps p.tables e below (T9.setTop (mkF m 93 #[.val (.int p1), .val (.int (0 : Int32)), .val (.ref s0_PERMIT), .val (.ref s1_DENY), .val (.int (1 : Int32)), .val (.int (1 : Int32)), .val (.int (0 : Int32)), .unset] [(.int (0 : Int32)), (.int (0 : Int32))])) _
      refine XS.icmpNo X9.here hx rfl (hb hby at_93) rfl (teq h10).2 ?_
      show Steps p.tables e below (T9.setTop (mkF m 96 #[.val (.int p1), .val (.int (0 : Int32)), .val (.ref s0_PERMIT), .val (.ref s1_DENY), .val (.int (1 : Int32)), .val (.int (1 : Int32)), .val (.int (0 : Int32)), .unset] [])) _
      refine XS.iconst X9.here hx rfl (hb hby at_96) ?_
      show Steps p.tables e below (T9.setTop (mkF m 97 #[.val (.int p1), .val (.int (0 : Int32)), .val (.ref s0_PERMIT), .val (.ref s1_DENY), .val (.int (1 : Int32)), .val (.int (1 : Int32)), .val (.int (0 : Int32)), .unset] [(.int (1 : Int32))])) _
      refine XS.goto X9.here hx rfl (pc0 := 97) (pc' := 101) rfl (hb hby at_97) (by decide) (by decide) ?_
      show Steps p.tables e below (T9.setTop (mkF m 101 #[.val (.int p1), .val (.int (0 : Int32)), .val (.ref s0_PERMIT), .val (.ref s1_DENY), .val (.int (1 : Int32)), .val (.int (1 : Int32)), .val (.int (0 : Int32)), .unset] [(.int (1 : Int32))])) _
      refine XS.istore X9.here hx rfl (hb hby at_101) rfl (l' := #[.val (.int p1), .val (.int (0 : Int32)), .val (.ref s0_PERMIT), .val (.ref s1_DENY), .val (.int (1 : Int32)), .val (.int (1 : Int32)), .val (.int (0 : Int32)), .val (.int (1 : Int32))]) rfl ?_
      show Steps p.tables e below (T9.setTop (mkF m 103 #[.val (.int p1), .val (.int (0 : Int32)), .val (.ref s0_PERMIT), .val (.ref s1_DENY), .val (.int (1 : Int32)), .val (.int (1 : Int32)), .val (.int (0 : Int32)), .val (.int (1 : Int32))] [])) _
      refine XS.iload X9.here hx rfl (hb hby at_103) rfl ?_
      show Steps p.tables e below (T9.setTop (mkF m 105 #[.val (.int p1), .val (.int (0 : Int32)), .val (.ref s0_PERMIT), .val (.ref s1_DENY), .val (.int (1 : Int32)), .val (.int (1 : Int32)), .val (.int (0 : Int32)), .val (.int (1 : Int32))] [(.int (1 : Int32))])) _
      refine XS.ifNo X9.here hx rfl (hb hby at_105) rfl ((if0 _ _).trans (feq h11).1) ?_
      show Steps p.tables e below (T9.setTop (mkF m 108 #[.val (.int p1), .val (.int (0 : Int32)), .val (.ref s0_PERMIT), .val (.ref s1_DENY), .val (.int (1 : Int32)), .val (.int (1 : Int32)), .val (.int (0 : Int32)), .val (.int (1 : Int32))] [])) _
      refine XS.iload X9.here hx rfl (hb hby at_108) rfl ?_
      show Steps p.tables e below (T9.setTop (mkF m 110 #[.val (.int p1), .val (.int (0 : Int32)), .val (.ref s0_PERMIT), .val (.ref s1_DENY), .val (.int (1 : Int32)), .val (.int (1 : Int32)), .val (.int (0 : Int32)), .val (.int (1 : Int32))] [(.int (1 : Int32))])) _
      refine XS.ifNo X9.here hx rfl (hb hby at_110) rfl ((if0 _ _).trans (feq h12).1) ?_
      show Steps p.tables e below (T9.setTop (mkF m 113 #[.val (.int p1), .val (.int (0 : Int32)), .val (.ref s0_PERMIT), .val (.ref s1_DENY), .val (.int (1 : Int32)), .val (.int (1 : Int32)), .val (.int (0 : Int32)), .val (.int (1 : Int32))] [])) _
      refine XS.iload X9.here hx rfl (hb hby at_113) rfl ?_
      show Steps p.tables e below (T9.setTop (mkF m 115 #[.val (.int p1), .val (.int (0 : Int32)), .val (.ref s0_PERMIT), .val (.ref s1_DENY), .val (.int (1 : Int32)), .val (.int (1 : Int32)), .val (.int (0 : Int32)), .val (.int (1 : Int32))] [(.int (1 : Int32))])) _
      refine XS.ifNo X9.here hx rfl (hb hby at_115) rfl ((if0 _ _).trans (feq h13).1) ?_
      show Steps p.tables e below (T9.setTop (mkF m 118 #[.val (.int p1), .val (.int (0 : Int32)), .val (.ref s0_PERMIT), .val (.ref s1_DENY), .val (.int (1 : Int32)), .val (.int (1 : Int32)), .val (.int (0 : Int32)), .val (.int (1 : Int32))] [])) _
      refine XS.iconst X9.here hx rfl (hb hby at_118) ?_
      show Steps p.tables e below (T9.setTop (mkF m 119 #[.val (.int p1), .val (.int (0 : Int32)), .val (.ref s0_PERMIT), .val (.ref s1_DENY), .val (.int (1 : Int32)), .val (.int (1 : Int32)), .val (.int (0 : Int32)), .val (.int (1 : Int32))] [(.int (1 : Int32))])) _
      refine XS.goto X9.here hx rfl (pc0 := 119) (pc' := 123) rfl (hb hby at_119) (by decide) (by decide) ?_
      show Steps p.tables e below (T9.setTop (mkF m 123 #[.val (.int p1), .val (.int (0 : Int32)), .val (.ref s0_PERMIT), .val (.ref s1_DENY), .val (.int (1 : Int32)), .val (.int (1 : Int32)), .val (.int (0 : Int32)), .val (.int (1 : Int32))] [(.int (1 : Int32))])) _
      exact retN X9 hx (t := .boolean) Bd.returns (by simp) (hb hby at_123) hr
    · show Q0 Z p1 s0_PERMIT s1_DENY s2_DENY s3_PERMIT s4_NOT_APPLICABLE s5_INDETERMINATE_DP s6_INDETERMINATE_D s7_INDETERMINATE_P s8_INDETERMINATE s9_NOT_APPLICABLE h0 n0 _ T9.heap _
      rw [e9]
      exact ⟨rfl, N7⟩
  · rw [hk1]
    obtain ⟨_, _, ⟨T14, L14, k14, n14⟩, -, X14, ⟨Lc14, hQ14, l14, y14, z14⟩, st14⟩ := Jvm.LawKit.callS X0 hx (y := (⟨"com/example/verdikt/verdikt/model/ExtendedDecisionMirrorPinLaw", "pick", "(I)Lcom/example/verdikt/verdikt/model/ExtendedDecision;"⟩ : MethodName)) hown (mvT hZ (hw _ (List.mem_of_getElem? (i := 1) rfl))) (mvT hZ (hw _ (List.mem_of_getElem? (i := 2) rfl))) (mvT hZ (hw _ (List.mem_of_getElem? (i := 3) rfl))) (mvT hZ (hw _ (List.mem_of_getElem? (i := 4) rfl))) (by decide) (backOf (W := 0) (rm1 l Z a0 hw [] (1 : Int32) s0_PERMIT s1_DENY s4_NOT_APPLICABLE s5_INDETERMINATE_DP s6_INDETERMINATE_D s7_INDETERMINATE_P h0 n0 Z0 S_ExtendedDecision_PERMIT S_ExtendedDecision_DENY S_ExtendedDecision_NOT_APPLICABLE S_ExtendedDecision_INDETERMINATE_DP S_ExtendedDecision_INDETERMINATE_D S_ExtendedDecision_INDETERMINATE_P) hZ (hw _ (List.mem_of_getElem? (i := 4) rfl)) (hw _ (List.mem_of_getElem? (i := 3) rfl)) (by decide) (by decide)) (g := (mkF m 9 #[.val (.int p1), .val (.int (1 : Int32)), .unset, .unset, .unset, .unset, .unset, .unset] [(.int (1 : Int32))])) rfl (by rw [hml]; rfl) (argsL := [(.int (1 : Int32))]) (rest := []) (lenOf pd_1 rfl) rfl (by show 2 * 0 + _ ≤ _; exact Nat.le_of_eq rfl) (hb hby at_9) (fun _ _ => ⟨rfl, e0, (by decide : 0 + 0 ≤ _), (by decide : 0 + 0 ≤ _)⟩)
    dsimp only [Pt.U, Pt.locs, Pt.cells, Pt.slots] at X14 l14 y14 z14 st14 hQ14
    subst l14 y14 z14
    obtain ⟨hv14, N14q, e14⟩ := hQ14
    rw [show f1 (1 : Int32) s0_PERMIT s1_DENY s4_NOT_APPLICABLE s5_INDETERMINATE_DP s6_INDETERMINATE_D s7_INDETERMINATE_P = s1_DENY from (if_neg (by decide)).trans (if_pos (by decide))] at hv14
    subst hv14
    have N14 := Fr.app N0 N14q
    obtain ⟨cq15, kq15, q15a, q15b, q15c⟩ := isOf hZ e14 E_s1_DENY
    obtain ⟨_, _, ⟨T15, L15, k15, n15⟩, -, X15, ⟨Lc15, hQ15, l15, y15, z15⟩, st15⟩ := X14.virtualBack hx (y := (⟨"com/example/verdikt/verdikt/model/ExtendedDecision", "mirror", "()Lcom/example/verdikt/verdikt/model/ExtendedDecision;"⟩ : MethodName)) (z := (⟨"com/example/verdikt/verdikt/model/ExtendedDecision", "mirror", "()Lcom/example/verdikt/verdikt/model/ExtendedDecision;"⟩ : MethodName)) hown (mvT hZ (hw _ (List.mem_of_getElem? (i := 8) rfl))) (mvT hZ (hw _ (List.mem_of_getElem? (i := 9) rfl))) (notFace_of_selects (args := #[]) (mvT hZ (hw _ (List.mem_of_getElem? (i := 11) rfl)))) (mvT hZ (hw _ (List.mem_of_getElem? (i := 11) rfl))) (mvT hZ (hw _ (List.mem_of_getElem? (i := 10) rfl))) (by decide) (backOf (W := 0) (rmm1 l Z a0 hw [] s1_DENY s0_PERMIT s1_DENY s4_NOT_APPLICABLE s5_INDETERMINATE_DP s6_INDETERMINATE_D s7_INDETERMINATE_P h0 n0 Z0 E_s1_DENY F_s1_DENY_ordinal S_ExtendedDecision_PERMIT S_ExtendedDecision_DENY S_ExtendedDecision_NOT_APPLICABLE S_ExtendedDecision_INDETERMINATE_DP S_ExtendedDecision_INDETERMINATE_D S_ExtendedDecision_INDETERMINATE_P) hZ (hw _ (List.mem_of_getElem? (i := 12) rfl)) (hw _ (List.mem_of_getElem? (i := 6) rfl)) (by decide) (by decide)) q15a q15c (g := (mkF m 14 #[.val (.int p1), .val (.int (1 : Int32)), .val (.ref s1_DENY), .unset, .unset, .unset, .unset, .unset] [(.ref s1_DENY)])) rfl (by rw [hml]; rfl) (Steps.refl _) (argsL := []) (rest := []) (lenOf pd_2 rfl) rfl (by show 2 * 0 + _ ≤ _; exact Nat.le_of_eq rfl) (hb hby at_14) (fun _ _ => ⟨rfl, e14, (by decide : 0 + 0 ≤ _), (by decide : 0 + 0 ≤ _)⟩)
    dsimp only [Pt.U, Pt.locs, Pt.cells, Pt.slots] at X15 l15 y15 z15 st15 hQ15
    subst l15 y15 z15
    obtain ⟨hv15, N15q, e15⟩ := hQ15
    rw [show fm1 s1_DENY s0_PERMIT s1_DENY s4_NOT_APPLICABLE s5_INDETERMINATE_DP s6_INDETERMINATE_D s7_INDETERMINATE_P = s0_PERMIT from rfl] at hv15
    subst hv15
    have N15 := Fr.app N14 N15q
    obtain ⟨cq16, kq16, q16a, q16b, q16c⟩ := isOf hZ e15 E_s0_PERMIT
    obtain ⟨_, _, ⟨T16, L16, k16, n16⟩, -, X16, ⟨Lc16, hQ16, l16, y16, z16⟩, st16⟩ := X15.virtualBack hx (y := (⟨"com/example/verdikt/verdikt/model/ExtendedDecision", "mirror", "()Lcom/example/verdikt/verdikt/model/ExtendedDecision;"⟩ : MethodName)) (z := (⟨"com/example/verdikt/verdikt/model/ExtendedDecision", "mirror", "()Lcom/example/verdikt/verdikt/model/ExtendedDecision;"⟩ : MethodName)) hown (mvT hZ (hw _ (List.mem_of_getElem? (i := 8) rfl))) (mvT hZ (hw _ (List.mem_of_getElem? (i := 9) rfl))) (notFace_of_selects (args := #[]) (mvT hZ (hw _ (List.mem_of_getElem? (i := 11) rfl)))) (mvT hZ (hw _ (List.mem_of_getElem? (i := 11) rfl))) (mvT hZ (hw _ (List.mem_of_getElem? (i := 10) rfl))) (by decide) (backOf (W := 0) (rmm0 l Z a0 hw [] s0_PERMIT s0_PERMIT s1_DENY s4_NOT_APPLICABLE s5_INDETERMINATE_DP s6_INDETERMINATE_D s7_INDETERMINATE_P h0 n0 Z0 E_s0_PERMIT F_s0_PERMIT_ordinal S_ExtendedDecision_PERMIT S_ExtendedDecision_DENY S_ExtendedDecision_NOT_APPLICABLE S_ExtendedDecision_INDETERMINATE_DP S_ExtendedDecision_INDETERMINATE_D S_ExtendedDecision_INDETERMINATE_P) hZ (hw _ (List.mem_of_getElem? (i := 12) rfl)) (hw _ (List.mem_of_getElem? (i := 6) rfl)) (by decide) (by decide)) q16a q16c (g := (mkF m 25 #[.val (.int p1), .val (.int (1 : Int32)), .val (.ref s1_DENY), .val (.ref s0_PERMIT), .unset, .unset, .unset, .unset] [(.ref s0_PERMIT)])) rfl (by rw [hml]; rfl) (Steps.refl _) (argsL := []) (rest := []) (lenOf pd_2 rfl) rfl (by show 2 * 0 + _ ≤ _; exact Nat.le_of_eq rfl) (hb hby at_25) (fun _ _ => ⟨rfl, e15, (by decide : 0 + 0 ≤ _), (by decide : 0 + 0 ≤ _)⟩)
    dsimp only [Pt.U, Pt.locs, Pt.cells, Pt.slots] at X16 l16 y16 z16 st16 hQ16
    subst l16 y16 z16
    obtain ⟨hv16, N16q, e16⟩ := hQ16
    rw [show fm0 s0_PERMIT s0_PERMIT s1_DENY s4_NOT_APPLICABLE s5_INDETERMINATE_DP s6_INDETERMINATE_D s7_INDETERMINATE_P = s1_DENY from rfl] at hv16
    subst hv16
    have N16 := Fr.app N15 N16q
    obtain ⟨cq17, kq17, q17a, q17b, q17c⟩ := isOf hZ e16 E_s0_PERMIT
    obtain ⟨_, _, ⟨T17, L17, k17, n17⟩, -, X17, ⟨Lc17, hQ17, l17, y17, z17⟩, st17⟩ := X16.virtualBack hx (y := (⟨"com/example/verdikt/verdikt/model/ExtendedDecision", "decision", "()Lcom/example/verdikt/verdikt/model/Decision;"⟩ : MethodName)) (z := (⟨"com/example/verdikt/verdikt/model/ExtendedDecision", "decision", "()Lcom/example/verdikt/verdikt/model/Decision;"⟩ : MethodName)) hown (mvT hZ (hw _ (List.mem_of_getElem? (i := 25) rfl))) (mvT hZ (hw _ (List.mem_of_getElem? (i := 26) rfl))) (notFace_of_selects (args := #[]) (mvT hZ (hw _ (List.mem_of_getElem? (i := 28) rfl)))) (mvT hZ (hw _ (List.mem_of_getElem? (i := 28) rfl))) (mvT hZ (hw _ (List.mem_of_getElem? (i := 27) rfl))) (by decide) (backOf (W := 0) (rm4 l Z a0 hw [] s0_PERMIT s3_PERMIT h0 n0 Z0 F_s0_PERMIT_decision) hZ (hw _ (List.mem_of_getElem? (i := 29) rfl)) (hw _ (List.mem_of_getElem? (i := 6) rfl)) (by decide) (by decide)) q17a q17c (g := (mkF m 40 #[.val (.int p1), .val (.int (1 : Int32)), .val (.ref s1_DENY), .val (.ref s0_PERMIT), .val (.int (1 : Int32)), .unset, .unset, .unset] [(.ref s0_PERMIT)])) rfl (by rw [hml]; rfl) (Steps.refl _) (argsL := []) (rest := []) (lenOf pd_3 rfl) rfl (by show 2 * 0 + _ ≤ _; exact Nat.le_of_eq rfl) (hb hby at_40) (fun _ _ => ⟨rfl, e16, (by decide : 0 + 0 ≤ _), (by decide : 0 + 0 ≤ _)⟩)
    dsimp only [Pt.U, Pt.locs, Pt.cells, Pt.slots] at X17 l17 y17 z17 st17 hQ17
    subst l17 y17 z17
    obtain ⟨hv17, N17q, e17⟩ := hQ17
    rw [show f4 s0_PERMIT s3_PERMIT = s3_PERMIT from rfl] at hv17
    subst hv17
    have N17 := Fr.app N16 N17q
    obtain ⟨cq18, kq18, q18a, q18b, q18c⟩ := isOf hZ e17 E_s1_DENY
    obtain ⟨_, _, ⟨T18, L18, k18, n18⟩, -, X18, ⟨Lc18, hQ18, l18, y18, z18⟩, st18⟩ := X17.virtualBack hx (y := (⟨"com/example/verdikt/verdikt/model/ExtendedDecision", "decision", "()Lcom/example/verdikt/verdikt/model/Decision;"⟩ : MethodName)) (z := (⟨"com/example/verdikt/verdikt/model/ExtendedDecision", "decision", "()Lcom/example/verdikt/verdikt/model/Decision;"⟩ : MethodName)) hown (mvT hZ (hw _ (List.mem_of_getElem? (i := 25) rfl))) (mvT hZ (hw _ (List.mem_of_getElem? (i := 26) rfl))) (notFace_of_selects (args := #[]) (mvT hZ (hw _ (List.mem_of_getElem? (i := 28) rfl)))) (mvT hZ (hw _ (List.mem_of_getElem? (i := 28) rfl))) (mvT hZ (hw _ (List.mem_of_getElem? (i := 27) rfl))) (by decide) (backOf (W := 1) (rm4 l Z a0 hw [] s1_DENY s2_DENY h0 n0 Z0 F_s1_DENY_decision) hZ (hw _ (List.mem_of_getElem? (i := 29) rfl)) (hw _ (List.mem_of_getElem? (i := 6) rfl)) (by decide) (by decide)) q18a q18c (g := (mkF m 44 #[.val (.int p1), .val (.int (1 : Int32)), .val (.ref s1_DENY), .val (.ref s0_PERMIT), .val (.int (1 : Int32)), .unset, .unset, .unset] [(.ref s1_DENY), (.ref s3_PERMIT)])) rfl (by rw [hml]; rfl) (Steps.refl _) (argsL := []) (rest := [(.ref s3_PERMIT)]) (lenOf pd_3 rfl) rfl (by show 2 * 0 + _ ≤ _; exact Nat.le_of_eq rfl) (hb hby at_44) (fun _ _ => ⟨rfl, e17, (by decide : 0 + 0 ≤ _), (by decide : 0 + 0 ≤ _)⟩)
    dsimp only [Pt.U, Pt.locs, Pt.cells, Pt.slots] at X18 l18 y18 z18 st18 hQ18
    subst l18 y18 z18
    obtain ⟨hv18, N18q, e18⟩ := hQ18
    rw [show f4 s1_DENY s2_DENY = s2_DENY from rfl] at hv18
    subst hv18
    have N18 := Fr.app N17 N18q
    obtain ⟨_, _, ⟨T19, L19, k19, n19⟩, -, X19, ⟨Lc19, hQ19, l19, y19, z19⟩, st19⟩ := Jvm.LawKit.callS X18 hx (y := (⟨"com/example/verdikt/verdikt/model/ExtendedDecisionMirrorPinLaw", "swap", "(Lcom/example/verdikt/verdikt/model/Decision;)Lcom/example/verdikt/verdikt/model/Decision;"⟩ : MethodName)) hown (mvT hZ (hw _ (List.mem_of_getElem? (i := 35) rfl))) (mvT hZ (hw _ (List.mem_of_getElem? (i := 36) rfl))) (mvT hZ (hw _ (List.mem_of_getElem? (i := 3) rfl))) (mvT hZ (hw _ (List.mem_of_getElem? (i := 37) rfl))) (by decide) (backOf (W := 1) (rm5 l Z a0 hw [] s2_DENY s2_DENY s3_PERMIT s8_INDETERMINATE s9_NOT_APPLICABLE h0 n0 Z0 S_Decision_DENY S_Decision_PERMIT S_Decision_INDETERMINATE S_Decision_NOT_APPLICABLE) hZ (hw _ (List.mem_of_getElem? (i := 37) rfl)) (hw _ (List.mem_of_getElem? (i := 3) rfl)) (by decide) (by decide)) (g := (mkF m 47 #[.val (.int p1), .val (.int (1 : Int32)), .val (.ref s1_DENY), .val (.ref s0_PERMIT), .val (.int (1 : Int32)), .unset, .unset, .unset] [(.ref s2_DENY), (.ref s3_PERMIT)])) rfl (by rw [hml]; rfl) (argsL := [(.ref s2_DENY)]) (rest := [(.ref s3_PERMIT)]) (lenOf pd_4 rfl) rfl (by show 2 * 0 + _ ≤ _; exact Nat.le_of_eq rfl) (hb hby at_47) (fun _ _ => ⟨rfl, e18, (by decide : 0 + 0 ≤ _), (by decide : 0 + 0 ≤ _)⟩)
    dsimp only [Pt.U, Pt.locs, Pt.cells, Pt.slots] at X19 l19 y19 z19 st19 hQ19
    subst l19 y19 z19
    obtain ⟨hv19, N19q, e19⟩ := hQ19
    rw [show f5 s2_DENY s2_DENY s3_PERMIT s8_INDETERMINATE s9_NOT_APPLICABLE = s3_PERMIT from (if_neg (Ne.symm NE_s3_PERMIT_s2_DENY)).trans (if_pos rfl)] at hv19
    subst hv19
    have N19 := Fr.app N18 N19q
    obtain ⟨T20, X20, e20, st20⟩ := getS X19 hx hZ (host := "") hown (hw _ (List.mem_of_getElem? (i := 40) rfl)) Via.refl e19 S_ExtendedDecision_NOT_APPLICABLE (g := (mkF m 61 #[.val (.int p1), .val (.int (1 : Int32)), .val (.ref s1_DENY), .val (.ref s0_PERMIT), .val (.int (1 : Int32)), .val (.int (1 : Int32)), .unset, .unset] [(.ref s1_DENY)])) rfl (hb hby at_61)
    obtain ⟨T21, X21, e21, st21⟩ := getS X20 hx hZ (host := "") hown (hw _ (List.mem_of_getElem? (i := 42) rfl)) Via.refl e20 S_ExtendedDecision_INDETERMINATE_DP (g := (mkF m 68 #[.val (.int p1), .val (.int (1 : Int32)), .val (.ref s1_DENY), .val (.ref s0_PERMIT), .val (.int (1 : Int32)), .val (.int (1 : Int32)), .unset, .unset] [(.ref s1_DENY)])) rfl (hb hby at_68)
    have h22 : (0 : Int32) = (0 : Int32) := by decide
    have h23 : ¬ ((1 : Int32) = (0 : Int32)) := by decide
    have h24 : ¬ ((1 : Int32) = (0 : Int32)) := by decide
    have h25 : ¬ ((1 : Int32) = (0 : Int32)) := by decide
    obtain ⟨fs, hr, hrun, hended, hW, hsame⟩ := X21.leave (v := some (.int (1 : Int32))) (fun h => by rw [Bd.returns] at h; cases h)
    refine ⟨_, _, ?_, hrun, hended, _, _, rfl, ?_, ⟨_, rfl⟩, hW, hsame.mono (by decide) (by decide)⟩
    · show Steps p.tables e below (s₁.setTop (mkF m 8 #[.val (.int p1), .val (.int (1 : Int32)), .unset, .unset, .unset, .unset, .unset, .unset] [])) _
      refine XS.iloadN X0.here hx rfl (hb hby at_8) rfl ?_
      show Steps p.tables e below (s₁.setTop (mkF m 9 #[.val (.int p1), .val (.int (1 : Int32)), .unset, .unset, .unset, .unset, .unset, .unset] [(.int (1 : Int32))])) _
      refine st14 _ ?_
      show Steps p.tables e below (T14.setTop (mkF m 12 #[.val (.int p1), .val (.int (1 : Int32)), .unset, .unset, .unset, .unset, .unset, .unset] [(.ref s1_DENY)])) _
      refine XS.astoreN X14.here hx rfl (hb hby at_12) rfl rfl (l' := #[.val (.int p1), .val (.int (1 : Int32)), .val (.ref s1_DENY), .unset, .unset, .unset, .unset, .unset]) rfl ?_
      show Steps p.tables e below (T14.setTop (mkF m 13 #[.val (.int p1), .val (.int (1 : Int32)), .val (.ref s1_DENY), .unset, .unset, .unset, .unset, .unset] [])) _
      refine XS.aloadN X14.here hx rfl (hb hby at_13) rfl rfl ?_
      show Steps p.tables e below (T14.setTop (mkF m 14 #[.val (.int p1), .val (.int (1 : Int32)), .val (.ref s1_DENY), .unset, .unset, .unset, .unset, .unset] [(.ref s1_DENY)])) _
      refine st15.trans ?_
      show Steps p.tables e below (T15.setTop (mkF m 17 #[.val (.int p1), .val (.int (1 : Int32)), .val (.ref s1_DENY), .unset, .unset, .unset, .unset, .unset] [(.ref s0_PERMIT)])) _
      refine XS.astoreN X15.here hx rfl (hb hby at_17) rfl rfl (l' := #[.val (.int p1), .val (.int (1 : Int32)), .val (.ref s1_DENY), .val (.ref s0_PERMIT), .unset, .unset, .unset, .unset]) rfl ?_
      show Steps p.tables e below (T15.setTop (mkF m 18 #[.val (.int p1), .val (.int (1 : Int32)), .val (.ref s1_DENY), .val (.ref s0_PERMIT), .unset, .unset, .unset, .unset] [])) _
      refine XS.aloadN X15.here hx rfl (hb hby at_18) rfl rfl ?_
      show Steps p.tables e below (T15.setTop (mkF m 19 #[.val (.int p1), .val (.int (1 : Int32)), .val (.ref s1_DENY), .val (.ref s0_PERMIT), .unset, .unset, .unset, .unset] [(.ref s0_PERMIT)])) _
      refine XT.ifnonnullYes X15.here hx rfl (pc0 := 19) (pc' := 24) rfl (hb hby at_19) rfl (by decide) (by decide) ?_
      show Steps p.tables e below (T15.setTop (mkF m 24 #[.val (.int p1), .val (.int (1 : Int32)), .val (.ref s1_DENY), .val (.ref s0_PERMIT), .unset, .unset, .unset, .unset] [])) _
      refine XS.aloadN X15.here hx rfl (hb hby at_24) rfl rfl ?_
      show Steps p.tables e below (T15.setTop (mkF m 25 #[.val (.int p1), .val (.int (1 : Int32)), .val (.ref s1_DENY), .val (.ref s0_PERMIT), .unset, .unset, .unset, .unset] [(.ref s0_PERMIT)])) _
      refine st16.trans ?_
      show Steps p.tables e below (T16.setTop (mkF m 28 #[.val (.int p1), .val (.int (1 : Int32)), .val (.ref s1_DENY), .val (.ref s0_PERMIT), .unset, .unset, .unset, .unset] [(.ref s1_DENY)])) _
      refine XS.aloadN X16.here hx rfl (hb hby at_28) rfl rfl ?_
      show Steps p.tables e below (T16.setTop (mkF m 29 #[.val (.int p1), .val (.int (1 : Int32)), .val (.ref s1_DENY), .val (.ref s0_PERMIT), .unset, .unset, .unset, .unset] [(.ref s1_DENY), (.ref s1_DENY)])) _
      refine XT.acmpNo X16.here hx rfl (hb hby at_29) rfl rfl rfl (own_aT rfl).2 ?_
      show Steps p.tables e below (T16.setTop (mkF m 32 #[.val (.int p1), .val (.int (1 : Int32)), .val (.ref s1_DENY), .val (.ref s0_PERMIT), .unset, .unset, .unset, .unset] [])) _
      refine XS.iconst X16.here hx rfl (hb hby at_32) ?_
      show Steps p.tables e below (T16.setTop (mkF m 33 #[.val (.int p1), .val (.int (1 : Int32)), .val (.ref s1_DENY), .val (.ref s0_PERMIT), .unset, .unset, .unset, .unset] [(.int (1 : Int32))])) _
      refine XS.goto X16.here hx rfl (pc0 := 33) (pc' := 37) rfl (hb hby at_33) (by decide) (by decide) ?_
      show Steps p.tables e below (T16.setTop (mkF m 37 #[.val (.int p1), .val (.int (1 : Int32)), .val (.ref s1_DENY), .val (.ref s0_PERMIT), .unset, .unset, .unset, .unset] [(.int (1 : Int32))])) _
      refine XS.istore X16.here hx rfl (hb hby at_37) rfl (l' := #[.val (.int p1), .val (.int (1 : Int32)), .val (.ref s1_DENY), .val (.ref s0_PERMIT), .val (.int (1 : Int32)), .unset, .unset, .unset]) rfl ?_
      show Steps p.tables e below (T16.setTop (mkF m 39 #[.val (.int p1), .val (.int (1 : Int32)), .val (.ref s1_DENY), .val (.ref s0_PERMIT), .val (.int (1 : Int32)), .unset, .unset, .unset] [])) _
      refine XS.aloadN X16.here hx rfl (hb hby at_39) rfl rfl ?_
      show Steps p.tables e below (T16.setTop (mkF m 40 #[.val (.int p1), .val (.int (1 : Int32)), .val (.ref s1_DENY), .val (.ref s0_PERMIT), .val (.int (1 : Int32)), .unset, .unset, .unset] [(.ref s0_PERMIT)])) _
      refine st17.trans ?_
      show Steps p.tables e below (T17.setTop (mkF m 43 #[.val (.int p1), .val (.int (1 : Int32)), .val (.ref s1_DENY), .val (.ref s0_PERMIT), .val (.int (1 : Int32)), .unset, .unset, .unset] [(.ref s3_PERMIT)])) _
      refine XS.aloadN X17.here hx rfl (hb hby at_43) rfl rfl ?_
      show Steps p.tables e below (T17.setTop (mkF m 44 #[.val (.int p1), .val (.int (1 : Int32)), .val (.ref s1_DENY), .val (.ref s0_PERMIT), .val (.int (1 : Int32)), .unset, .unset, .unset] [(.ref s1_DENY), (.ref s3_PERMIT)])) _
      refine st18.trans ?_
      show Steps p.tables e below (T18.setTop (mkF m 47 #[.val (.int p1), .val (.int (1 : Int32)), .val (.ref s1_DENY), .val (.ref s0_PERMIT), .val (.int (1 : Int32)), .unset, .unset, .unset] [(.ref s2_DENY), (.ref s3_PERMIT)])) _
      refine st19 _ ?_
      show Steps p.tables e below (T19.setTop (mkF m 50 #[.val (.int p1), .val (.int (1 : Int32)), .val (.ref s1_DENY), .val (.ref s0_PERMIT), .val (.int (1 : Int32)), .unset, .unset, .unset] [(.ref s3_PERMIT), (.ref s3_PERMIT)])) _
      refine XT.acmpNo X19.here hx rfl (hb hby at_50) rfl rfl rfl (own_aT rfl).2 ?_
      show Steps p.tables e below (T19.setTop (mkF m 53 #[.val (.int p1), .val (.int (1 : Int32)), .val (.ref s1_DENY), .val (.ref s0_PERMIT), .val (.int (1 : Int32)), .unset, .unset, .unset] [])) _
      refine XS.iconst X19.here hx rfl (hb hby at_53) ?_
      show Steps p.tables e below (T19.setTop (mkF m 54 #[.val (.int p1), .val (.int (1 : Int32)), .val (.ref s1_DENY), .val (.ref s0_PERMIT), .val (.int (1 : Int32)), .unset, .unset, .unset] [(.int (1 : Int32))])) _
      refine XS.goto X19.here hx rfl (pc0 := 54) (pc' := 58) rfl (hb hby at_54) (by decide) (by decide) ?_
      show Steps p.tables e below (T19.setTop (mkF m 58 #[.val (.int p1), .val (.int (1 : Int32)), .val (.ref s1_DENY), .val (.ref s0_PERMIT), .val (.int (1 : Int32)), .unset, .unset, .unset] [(.int (1 : Int32))])) _
      refine XS.istore X19.here hx rfl (hb hby at_58) rfl (l' := #[.val (.int p1), .val (.int (1 : Int32)), .val (.ref s1_DENY), .val (.ref s0_PERMIT), .val (.int (1 : Int32)), .val (.int (1 : Int32)), .unset, .unset]) rfl ?_
      show Steps p.tables e below (T19.setTop (mkF m 60 #[.val (.int p1), .val (.int (1 : Int32)), .val (.ref s1_DENY), .val (.ref s0_PERMIT), .val (.int (1 : Int32)), .val (.int (1 : Int32)), .unset, .unset] [])) _
      refine XS.aloadN X19.here hx rfl (hb hby at_60) rfl rfl ?_
      show Steps p.tables e below (T19.setTop (mkF m 61 #[.val (.int p1), .val (.int (1 : Int32)), .val (.ref s1_DENY), .val (.ref s0_PERMIT), .val (.int (1 : Int32)), .val (.int (1 : Int32)), .unset, .unset] [(.ref s1_DENY)])) _
      refine st20 _ ?_
      show Steps p.tables e below (T20.setTop (mkF m 64 #[.val (.int p1), .val (.int (1 : Int32)), .val (.ref s1_DENY), .val (.ref s0_PERMIT), .val (.int (1 : Int32)), .val (.int (1 : Int32)), .unset, .unset] [(.ref s4_NOT_APPLICABLE), (.ref s1_DENY)])) _
      refine XT.acmpNo X20.here hx rfl (hb hby at_64) rfl rfl rfl (own_aF NE_s1_DENY_s4_NOT_APPLICABLE).1 ?_
      show Steps p.tables e below (T20.setTop (mkF m 67 #[.val (.int p1), .val (.int (1 : Int32)), .val (.ref s1_DENY), .val (.ref s0_PERMIT), .val (.int (1 : Int32)), .val (.int (1 : Int32)), .unset, .unset] [])) _
      refine XS.aloadN X20.here hx rfl (hb hby at_67) rfl rfl ?_
      show Steps p.tables e below (T20.setTop (mkF m 68 #[.val (.int p1), .val (.int (1 : Int32)), .val (.ref s1_DENY), .val (.ref s0_PERMIT), .val (.int (1 : Int32)), .val (.int (1 : Int32)), .unset, .unset] [(.ref s1_DENY)])) _
      refine st21 _ ?_
      show Steps p.tables e below (T21.setTop (mkF m 71 #[.val (.int p1), .val (.int (1 : Int32)), .val (.ref s1_DENY), .val (.ref s0_PERMIT), .val (.int (1 : Int32)), .val (.int (1 : Int32)), .unset, .unset] [(.ref s5_INDETERMINATE_DP), (.ref s1_DENY)])) _
      refine XT.acmpYes X21.here hx rfl (pc0 := 71) (pc' := 78) rfl (hb hby at_71) rfl rfl rfl (own_aF NE_s1_DENY_s5_INDETERMINATE_DP).2 (by decide) (by decide) ?_
      show Steps p.tables e below (T21.setTop (mkF m 78 #[.val (.int p1), .val (.int (1 : Int32)), .val (.ref s1_DENY), .val (.ref s0_PERMIT), .val (.int (1 : Int32)), .val (.int (1 : Int32)), .unset, .unset] [])) _
      refine XS.iconst X21.here hx rfl (hb hby at_78) ?_
      show Steps p.tables e below (T21.setTop (mkF m 79 #[.val (.int p1), .val (.int (1 : Int32)), .val (.ref s1_DENY), .val (.ref s0_PERMIT), .val (.int (1 : Int32)), .val (.int (1 : Int32)), .unset, .unset] [(.int (0 : Int32))])) _
      refine XS.istore X21.here hx rfl (hb hby at_79) rfl (l' := #[.val (.int p1), .val (.int (1 : Int32)), .val (.ref s1_DENY), .val (.ref s0_PERMIT), .val (.int (1 : Int32)), .val (.int (1 : Int32)), .val (.int (0 : Int32)), .unset]) rfl ?_
      show Steps p.tables e below (T21.setTop (mkF m 81 #[.val (.int p1), .val (.int (1 : Int32)), .val (.ref s1_DENY), .val (.ref s0_PERMIT), .val (.int (1 : Int32)), .val (.int (1 : Int32)), .val (.int (0 : Int32)), .unset] [])) _
      refine XS.aloadN X21.here hx rfl (hb hby at_81) rfl rfl ?_
      show Steps p.tables e below (T21.setTop (mkF m 82 #[.val (.int p1), .val (.int (1 : Int32)), .val (.ref s1_DENY), .val (.ref s0_PERMIT), .val (.int (1 : Int32)), .val (.int (1 : Int32)), .val (.int (0 : Int32)), .unset] [(.ref s0_PERMIT)])) _
      refine XS.aloadN X21.here hx rfl (hb hby at_82) rfl rfl ?_
      show Steps p.tables e below (T21.setTop (mkF m 83 #[.val (.int p1), .val (.int (1 : Int32)), .val (.ref s1_DENY), .val (.ref s0_PERMIT), .val (.int (1 : Int32)), .val (.int (1 : Int32)), .val (.int (0 : Int32)), .unset] [(.ref s1_DENY), (.ref s0_PERMIT)])) _
      refine XT.acmpYes X21.here hx rfl (pc0 := 83) (pc' := 90) rfl (hb hby at_83) rfl rfl rfl (own_aF NE_s0_PERMIT_s1_DENY).2 (by decide) (by decide) ?_
      show Steps p.tables e below (T21.setTop (mkF m 90 #[.val (.int p1), .val (.int (1 : Int32)), .val (.ref s1_DENY), .val (.ref s0_PERMIT), .val (.int (1 : Int32)), .val (.int (1 : Int32)), .val (.int (0 : Int32)), .unset] [])) _
      refine XS.iconst X21.here hx rfl (hb hby at_90) ?_
      show Steps p.tables e below (T21.setTop (mkF m 91 #[.val (.int p1), .val (.int (1 : Int32)), .val (.ref s1_DENY), .val (.ref s0_PERMIT), .val (.int (1 : Int32)), .val (.int (1 : Int32)), .val (.int (0 : Int32)), .unset] [(.int (0 : Int32))])) _
      refine XS.iload X21.here hx rfl (hb hby at_91) rfl ?_
      show Steps p.tables e below (T21.setTop (mkF m 93 #[.val (.int p1), .val (.int (1 : Int32)), .val (.ref s1_DENY), .val (.ref s0_PERMIT), .val (.int (1 : Int32)), .val (.int (1 : Int32)), .val (.int (0 : Int32)), .unset] [(.int (0 : Int32)), (.int (0 : Int32))])) _
      refine XS.icmpNo X21.here hx rfl (hb hby at_93) rfl (teq h22).2 ?_
      show Steps p.tables e below (T21.setTop (mkF m 96 #[.val (.int p1), .val (.int (1 : Int32)), .val (.ref s1_DENY), .val (.ref s0_PERMIT), .val (.int (1 : Int32)), .val (.int (1 : Int32)), .val (.int (0 : Int32)), .unset] [])) _
      refine XS.iconst X21.here hx rfl (hb hby at_96) ?_
      show Steps p.tables e below (T21.setTop (mkF m 97 #[.val (.int p1), .val (.int (1 : Int32)), .val (.ref s1_DENY), .val (.ref s0_PERMIT), .val (.int (1 : Int32)), .val (.int (1 : Int32)), .val (.int (0 : Int32)), .unset] [(.int (1 : Int32))])) _
      refine XS.goto X21.here hx rfl (pc0 := 97) (pc' := 101) rfl (hb hby at_97) (by decide) (by decide) ?_
      show Steps p.tables e below (T21.setTop (mkF m 101 #[.val (.int p1), .val (.int (1 : Int32)), .val (.ref s1_DENY), .val (.ref s0_PERMIT), .val (.int (1 : Int32)), .val (.int (1 : Int32)), .val (.int (0 : Int32)), .unset] [(.int (1 : Int32))])) _
      refine XS.istore X21.here hx rfl (hb hby at_101) rfl (l' := #[.val (.int p1), .val (.int (1 : Int32)), .val (.ref s1_DENY), .val (.ref s0_PERMIT), .val (.int (1 : Int32)), .val (.int (1 : Int32)), .val (.int (0 : Int32)), .val (.int (1 : Int32))]) rfl ?_
      show Steps p.tables e below (T21.setTop (mkF m 103 #[.val (.int p1), .val (.int (1 : Int32)), .val (.ref s1_DENY), .val (.ref s0_PERMIT), .val (.int (1 : Int32)), .val (.int (1 : Int32)), .val (.int (0 : Int32)), .val (.int (1 : Int32))] [])) _
      refine XS.iload X21.here hx rfl (hb hby at_103) rfl ?_
      show Steps p.tables e below (T21.setTop (mkF m 105 #[.val (.int p1), .val (.int (1 : Int32)), .val (.ref s1_DENY), .val (.ref s0_PERMIT), .val (.int (1 : Int32)), .val (.int (1 : Int32)), .val (.int (0 : Int32)), .val (.int (1 : Int32))] [(.int (1 : Int32))])) _
      refine XS.ifNo X21.here hx rfl (hb hby at_105) rfl ((if0 _ _).trans (feq h23).1) ?_
      show Steps p.tables e below (T21.setTop (mkF m 108 #[.val (.int p1), .val (.int (1 : Int32)), .val (.ref s1_DENY), .val (.ref s0_PERMIT), .val (.int (1 : Int32)), .val (.int (1 : Int32)), .val (.int (0 : Int32)), .val (.int (1 : Int32))] [])) _
      refine XS.iload X21.here hx rfl (hb hby at_108) rfl ?_
      show Steps p.tables e below (T21.setTop (mkF m 110 #[.val (.int p1), .val (.int (1 : Int32)), .val (.ref s1_DENY), .val (.ref s0_PERMIT), .val (.int (1 : Int32)), .val (.int (1 : Int32)), .val (.int (0 : Int32)), .val (.int (1 : Int32))] [(.int (1 : Int32))])) _
      refine XS.ifNo X21.here hx rfl (hb hby at_110) rfl ((if0 _ _).trans (feq h24).1) ?_
      show Steps p.tables e below (T21.setTop (mkF m 113 #[.val (.int p1), .val (.int (1 : Int32)), .val (.ref s1_DENY), .val (.ref s0_PERMIT), .val (.int (1 : Int32)), .val (.int (1 : Int32)), .val (.int (0 : Int32)), .val (.int (1 : Int32))] [])) _
      refine XS.iload X21.here hx rfl (hb hby at_113) rfl ?_
      show Steps p.tables e below (T21.setTop (mkF m 115 #[.val (.int p1), .val (.int (1 : Int32)), .val (.ref s1_DENY), .val (.ref s0_PERMIT), .val (.int (1 : Int32)), .val (.int (1 : Int32)), .val (.int (0 : Int32)), .val (.int (1 : Int32))] [(.int (1 : Int32))])) _
      refine XS.ifNo X21.here hx rfl (hb hby at_115) rfl ((if0 _ _).trans (feq h25).1) ?_
      show Steps p.tables e below (T21.setTop (mkF m 118 #[.val (.int p1), .val (.int (1 : Int32)), .val (.ref s1_DENY), .val (.ref s0_PERMIT), .val (.int (1 : Int32)), .val (.int (1 : Int32)), .val (.int (0 : Int32)), .val (.int (1 : Int32))] [])) _
      refine XS.iconst X21.here hx rfl (hb hby at_118) ?_
      show Steps p.tables e below (T21.setTop (mkF m 119 #[.val (.int p1), .val (.int (1 : Int32)), .val (.ref s1_DENY), .val (.ref s0_PERMIT), .val (.int (1 : Int32)), .val (.int (1 : Int32)), .val (.int (0 : Int32)), .val (.int (1 : Int32))] [(.int (1 : Int32))])) _
      refine XS.goto X21.here hx rfl (pc0 := 119) (pc' := 123) rfl (hb hby at_119) (by decide) (by decide) ?_
      show Steps p.tables e below (T21.setTop (mkF m 123 #[.val (.int p1), .val (.int (1 : Int32)), .val (.ref s1_DENY), .val (.ref s0_PERMIT), .val (.int (1 : Int32)), .val (.int (1 : Int32)), .val (.int (0 : Int32)), .val (.int (1 : Int32))] [(.int (1 : Int32))])) _
      exact retN X21 hx (t := .boolean) Bd.returns (by simp) (hb hby at_123) hr
    · show Q0 Z p1 s0_PERMIT s1_DENY s2_DENY s3_PERMIT s4_NOT_APPLICABLE s5_INDETERMINATE_DP s6_INDETERMINATE_D s7_INDETERMINATE_P s8_INDETERMINATE s9_NOT_APPLICABLE h0 n0 _ T21.heap _
      rw [e21]
      exact ⟨rfl, N19⟩
  · rw [hk1]
    obtain ⟨_, _, ⟨T26, L26, k26, n26⟩, -, X26, ⟨Lc26, hQ26, l26, y26, z26⟩, st26⟩ := Jvm.LawKit.callS X0 hx (y := (⟨"com/example/verdikt/verdikt/model/ExtendedDecisionMirrorPinLaw", "pick", "(I)Lcom/example/verdikt/verdikt/model/ExtendedDecision;"⟩ : MethodName)) hown (mvT hZ (hw _ (List.mem_of_getElem? (i := 1) rfl))) (mvT hZ (hw _ (List.mem_of_getElem? (i := 2) rfl))) (mvT hZ (hw _ (List.mem_of_getElem? (i := 3) rfl))) (mvT hZ (hw _ (List.mem_of_getElem? (i := 4) rfl))) (by decide) (backOf (W := 0) (rm1 l Z a0 hw [] (2 : Int32) s0_PERMIT s1_DENY s4_NOT_APPLICABLE s5_INDETERMINATE_DP s6_INDETERMINATE_D s7_INDETERMINATE_P h0 n0 Z0 S_ExtendedDecision_PERMIT S_ExtendedDecision_DENY S_ExtendedDecision_NOT_APPLICABLE S_ExtendedDecision_INDETERMINATE_DP S_ExtendedDecision_INDETERMINATE_D S_ExtendedDecision_INDETERMINATE_P) hZ (hw _ (List.mem_of_getElem? (i := 4) rfl)) (hw _ (List.mem_of_getElem? (i := 3) rfl)) (by decide) (by decide)) (g := (mkF m 9 #[.val (.int p1), .val (.int (2 : Int32)), .unset, .unset, .unset, .unset, .unset, .unset] [(.int (2 : Int32))])) rfl (by rw [hml]; rfl) (argsL := [(.int (2 : Int32))]) (rest := []) (lenOf pd_1 rfl) rfl (by show 2 * 0 + _ ≤ _; exact Nat.le_of_eq rfl) (hb hby at_9) (fun _ _ => ⟨rfl, e0, (by decide : 0 + 0 ≤ _), (by decide : 0 + 0 ≤ _)⟩)
    dsimp only [Pt.U, Pt.locs, Pt.cells, Pt.slots] at X26 l26 y26 z26 st26 hQ26
    subst l26 y26 z26
    obtain ⟨hv26, N26q, e26⟩ := hQ26
    rw [show f1 (2 : Int32) s0_PERMIT s1_DENY s4_NOT_APPLICABLE s5_INDETERMINATE_DP s6_INDETERMINATE_D s7_INDETERMINATE_P = s4_NOT_APPLICABLE from (if_neg (by decide)).trans ((if_neg (by decide)).trans (if_pos (by decide)))] at hv26
    subst hv26
    have N26 := Fr.app N0 N26q
    obtain ⟨cq27, kq27, q27a, q27b, q27c⟩ := isOf hZ e26 E_s4_NOT_APPLICABLE
    obtain ⟨_, _, ⟨T27, L27, k27, n27⟩, -, X27, ⟨Lc27, hQ27, l27, y27, z27⟩, st27⟩ := X26.virtualBack hx (y := (⟨"com/example/verdikt/verdikt/model/ExtendedDecision", "mirror", "()Lcom/example/verdikt/verdikt/model/ExtendedDecision;"⟩ : MethodName)) (z := (⟨"com/example/verdikt/verdikt/model/ExtendedDecision", "mirror", "()Lcom/example/verdikt/verdikt/model/ExtendedDecision;"⟩ : MethodName)) hown (mvT hZ (hw _ (List.mem_of_getElem? (i := 8) rfl))) (mvT hZ (hw _ (List.mem_of_getElem? (i := 9) rfl))) (notFace_of_selects (args := #[]) (mvT hZ (hw _ (List.mem_of_getElem? (i := 11) rfl)))) (mvT hZ (hw _ (List.mem_of_getElem? (i := 11) rfl))) (mvT hZ (hw _ (List.mem_of_getElem? (i := 10) rfl))) (by decide) (backOf (W := 0) (rmm2 l Z a0 hw [] s4_NOT_APPLICABLE s0_PERMIT s1_DENY s4_NOT_APPLICABLE s5_INDETERMINATE_DP s6_INDETERMINATE_D s7_INDETERMINATE_P h0 n0 Z0 E_s4_NOT_APPLICABLE F_s4_NOT_APPLICABLE_ordinal S_ExtendedDecision_PERMIT S_ExtendedDecision_DENY S_ExtendedDecision_NOT_APPLICABLE S_ExtendedDecision_INDETERMINATE_DP S_ExtendedDecision_INDETERMINATE_D S_ExtendedDecision_INDETERMINATE_P) hZ (hw _ (List.mem_of_getElem? (i := 12) rfl)) (hw _ (List.mem_of_getElem? (i := 6) rfl)) (by decide) (by decide)) q27a q27c (g := (mkF m 14 #[.val (.int p1), .val (.int (2 : Int32)), .val (.ref s4_NOT_APPLICABLE), .unset, .unset, .unset, .unset, .unset] [(.ref s4_NOT_APPLICABLE)])) rfl (by rw [hml]; rfl) (Steps.refl _) (argsL := []) (rest := []) (lenOf pd_2 rfl) rfl (by show 2 * 0 + _ ≤ _; exact Nat.le_of_eq rfl) (hb hby at_14) (fun _ _ => ⟨rfl, e26, (by decide : 0 + 0 ≤ _), (by decide : 0 + 0 ≤ _)⟩)
    dsimp only [Pt.U, Pt.locs, Pt.cells, Pt.slots] at X27 l27 y27 z27 st27 hQ27
    subst l27 y27 z27
    obtain ⟨hv27, N27q, e27⟩ := hQ27
    rw [show fm2 s4_NOT_APPLICABLE s0_PERMIT s1_DENY s4_NOT_APPLICABLE s5_INDETERMINATE_DP s6_INDETERMINATE_D s7_INDETERMINATE_P = s4_NOT_APPLICABLE from rfl] at hv27
    subst hv27
    have N27 := Fr.app N26 N27q
    obtain ⟨cq28, kq28, q28a, q28b, q28c⟩ := isOf hZ e27 E_s4_NOT_APPLICABLE
    obtain ⟨_, _, ⟨T28, L28, k28, n28⟩, -, X28, ⟨Lc28, hQ28, l28, y28, z28⟩, st28⟩ := X27.virtualBack hx (y := (⟨"com/example/verdikt/verdikt/model/ExtendedDecision", "mirror", "()Lcom/example/verdikt/verdikt/model/ExtendedDecision;"⟩ : MethodName)) (z := (⟨"com/example/verdikt/verdikt/model/ExtendedDecision", "mirror", "()Lcom/example/verdikt/verdikt/model/ExtendedDecision;"⟩ : MethodName)) hown (mvT hZ (hw _ (List.mem_of_getElem? (i := 8) rfl))) (mvT hZ (hw _ (List.mem_of_getElem? (i := 9) rfl))) (notFace_of_selects (args := #[]) (mvT hZ (hw _ (List.mem_of_getElem? (i := 11) rfl)))) (mvT hZ (hw _ (List.mem_of_getElem? (i := 11) rfl))) (mvT hZ (hw _ (List.mem_of_getElem? (i := 10) rfl))) (by decide) (backOf (W := 0) (rmm2 l Z a0 hw [] s4_NOT_APPLICABLE s0_PERMIT s1_DENY s4_NOT_APPLICABLE s5_INDETERMINATE_DP s6_INDETERMINATE_D s7_INDETERMINATE_P h0 n0 Z0 E_s4_NOT_APPLICABLE F_s4_NOT_APPLICABLE_ordinal S_ExtendedDecision_PERMIT S_ExtendedDecision_DENY S_ExtendedDecision_NOT_APPLICABLE S_ExtendedDecision_INDETERMINATE_DP S_ExtendedDecision_INDETERMINATE_D S_ExtendedDecision_INDETERMINATE_P) hZ (hw _ (List.mem_of_getElem? (i := 12) rfl)) (hw _ (List.mem_of_getElem? (i := 6) rfl)) (by decide) (by decide)) q28a q28c (g := (mkF m 25 #[.val (.int p1), .val (.int (2 : Int32)), .val (.ref s4_NOT_APPLICABLE), .val (.ref s4_NOT_APPLICABLE), .unset, .unset, .unset, .unset] [(.ref s4_NOT_APPLICABLE)])) rfl (by rw [hml]; rfl) (Steps.refl _) (argsL := []) (rest := []) (lenOf pd_2 rfl) rfl (by show 2 * 0 + _ ≤ _; exact Nat.le_of_eq rfl) (hb hby at_25) (fun _ _ => ⟨rfl, e27, (by decide : 0 + 0 ≤ _), (by decide : 0 + 0 ≤ _)⟩)
    dsimp only [Pt.U, Pt.locs, Pt.cells, Pt.slots] at X28 l28 y28 z28 st28 hQ28
    subst l28 y28 z28
    obtain ⟨hv28, N28q, e28⟩ := hQ28
    rw [show fm2 s4_NOT_APPLICABLE s0_PERMIT s1_DENY s4_NOT_APPLICABLE s5_INDETERMINATE_DP s6_INDETERMINATE_D s7_INDETERMINATE_P = s4_NOT_APPLICABLE from rfl] at hv28
    subst hv28
    have N28 := Fr.app N27 N28q
    obtain ⟨cq29, kq29, q29a, q29b, q29c⟩ := isOf hZ e28 E_s4_NOT_APPLICABLE
    obtain ⟨_, _, ⟨T29, L29, k29, n29⟩, -, X29, ⟨Lc29, hQ29, l29, y29, z29⟩, st29⟩ := X28.virtualBack hx (y := (⟨"com/example/verdikt/verdikt/model/ExtendedDecision", "decision", "()Lcom/example/verdikt/verdikt/model/Decision;"⟩ : MethodName)) (z := (⟨"com/example/verdikt/verdikt/model/ExtendedDecision", "decision", "()Lcom/example/verdikt/verdikt/model/Decision;"⟩ : MethodName)) hown (mvT hZ (hw _ (List.mem_of_getElem? (i := 25) rfl))) (mvT hZ (hw _ (List.mem_of_getElem? (i := 26) rfl))) (notFace_of_selects (args := #[]) (mvT hZ (hw _ (List.mem_of_getElem? (i := 28) rfl)))) (mvT hZ (hw _ (List.mem_of_getElem? (i := 28) rfl))) (mvT hZ (hw _ (List.mem_of_getElem? (i := 27) rfl))) (by decide) (backOf (W := 0) (rm4 l Z a0 hw [] s4_NOT_APPLICABLE s9_NOT_APPLICABLE h0 n0 Z0 F_s4_NOT_APPLICABLE_decision) hZ (hw _ (List.mem_of_getElem? (i := 29) rfl)) (hw _ (List.mem_of_getElem? (i := 6) rfl)) (by decide) (by decide)) q29a q29c (g := (mkF m 40 #[.val (.int p1), .val (.int (2 : Int32)), .val (.ref s4_NOT_APPLICABLE), .val (.ref s4_NOT_APPLICABLE), .val (.int (1 : Int32)), .unset, .unset, .unset] [(.ref s4_NOT_APPLICABLE)])) rfl (by rw [hml]; rfl) (Steps.refl _) (argsL := []) (rest := []) (lenOf pd_3 rfl) rfl (by show 2 * 0 + _ ≤ _; exact Nat.le_of_eq rfl) (hb hby at_40) (fun _ _ => ⟨rfl, e28, (by decide : 0 + 0 ≤ _), (by decide : 0 + 0 ≤ _)⟩)
    dsimp only [Pt.U, Pt.locs, Pt.cells, Pt.slots] at X29 l29 y29 z29 st29 hQ29
    subst l29 y29 z29
    obtain ⟨hv29, N29q, e29⟩ := hQ29
    rw [show f4 s4_NOT_APPLICABLE s9_NOT_APPLICABLE = s9_NOT_APPLICABLE from rfl] at hv29
    subst hv29
    have N29 := Fr.app N28 N29q
    obtain ⟨cq30, kq30, q30a, q30b, q30c⟩ := isOf hZ e29 E_s4_NOT_APPLICABLE
    obtain ⟨_, _, ⟨T30, L30, k30, n30⟩, -, X30, ⟨Lc30, hQ30, l30, y30, z30⟩, st30⟩ := X29.virtualBack hx (y := (⟨"com/example/verdikt/verdikt/model/ExtendedDecision", "decision", "()Lcom/example/verdikt/verdikt/model/Decision;"⟩ : MethodName)) (z := (⟨"com/example/verdikt/verdikt/model/ExtendedDecision", "decision", "()Lcom/example/verdikt/verdikt/model/Decision;"⟩ : MethodName)) hown (mvT hZ (hw _ (List.mem_of_getElem? (i := 25) rfl))) (mvT hZ (hw _ (List.mem_of_getElem? (i := 26) rfl))) (notFace_of_selects (args := #[]) (mvT hZ (hw _ (List.mem_of_getElem? (i := 28) rfl)))) (mvT hZ (hw _ (List.mem_of_getElem? (i := 28) rfl))) (mvT hZ (hw _ (List.mem_of_getElem? (i := 27) rfl))) (by decide) (backOf (W := 1) (rm4 l Z a0 hw [] s4_NOT_APPLICABLE s9_NOT_APPLICABLE h0 n0 Z0 F_s4_NOT_APPLICABLE_decision) hZ (hw _ (List.mem_of_getElem? (i := 29) rfl)) (hw _ (List.mem_of_getElem? (i := 6) rfl)) (by decide) (by decide)) q30a q30c (g := (mkF m 44 #[.val (.int p1), .val (.int (2 : Int32)), .val (.ref s4_NOT_APPLICABLE), .val (.ref s4_NOT_APPLICABLE), .val (.int (1 : Int32)), .unset, .unset, .unset] [(.ref s4_NOT_APPLICABLE), (.ref s9_NOT_APPLICABLE)])) rfl (by rw [hml]; rfl) (Steps.refl _) (argsL := []) (rest := [(.ref s9_NOT_APPLICABLE)]) (lenOf pd_3 rfl) rfl (by show 2 * 0 + _ ≤ _; exact Nat.le_of_eq rfl) (hb hby at_44) (fun _ _ => ⟨rfl, e29, (by decide : 0 + 0 ≤ _), (by decide : 0 + 0 ≤ _)⟩)
    dsimp only [Pt.U, Pt.locs, Pt.cells, Pt.slots] at X30 l30 y30 z30 st30 hQ30
    subst l30 y30 z30
    obtain ⟨hv30, N30q, e30⟩ := hQ30
    rw [show f4 s4_NOT_APPLICABLE s9_NOT_APPLICABLE = s9_NOT_APPLICABLE from rfl] at hv30
    subst hv30
    have N30 := Fr.app N29 N30q
    obtain ⟨_, _, ⟨T31, L31, k31, n31⟩, -, X31, ⟨Lc31, hQ31, l31, y31, z31⟩, st31⟩ := Jvm.LawKit.callS X30 hx (y := (⟨"com/example/verdikt/verdikt/model/ExtendedDecisionMirrorPinLaw", "swap", "(Lcom/example/verdikt/verdikt/model/Decision;)Lcom/example/verdikt/verdikt/model/Decision;"⟩ : MethodName)) hown (mvT hZ (hw _ (List.mem_of_getElem? (i := 35) rfl))) (mvT hZ (hw _ (List.mem_of_getElem? (i := 36) rfl))) (mvT hZ (hw _ (List.mem_of_getElem? (i := 3) rfl))) (mvT hZ (hw _ (List.mem_of_getElem? (i := 37) rfl))) (by decide) (backOf (W := 1) (rm5 l Z a0 hw [] s9_NOT_APPLICABLE s2_DENY s3_PERMIT s8_INDETERMINATE s9_NOT_APPLICABLE h0 n0 Z0 S_Decision_DENY S_Decision_PERMIT S_Decision_INDETERMINATE S_Decision_NOT_APPLICABLE) hZ (hw _ (List.mem_of_getElem? (i := 37) rfl)) (hw _ (List.mem_of_getElem? (i := 3) rfl)) (by decide) (by decide)) (g := (mkF m 47 #[.val (.int p1), .val (.int (2 : Int32)), .val (.ref s4_NOT_APPLICABLE), .val (.ref s4_NOT_APPLICABLE), .val (.int (1 : Int32)), .unset, .unset, .unset] [(.ref s9_NOT_APPLICABLE), (.ref s9_NOT_APPLICABLE)])) rfl (by rw [hml]; rfl) (argsL := [(.ref s9_NOT_APPLICABLE)]) (rest := [(.ref s9_NOT_APPLICABLE)]) (lenOf pd_4 rfl) rfl (by show 2 * 0 + _ ≤ _; exact Nat.le_of_eq rfl) (hb hby at_47) (fun _ _ => ⟨rfl, e30, (by decide : 0 + 0 ≤ _), (by decide : 0 + 0 ≤ _)⟩)
    dsimp only [Pt.U, Pt.locs, Pt.cells, Pt.slots] at X31 l31 y31 z31 st31 hQ31
    subst l31 y31 z31
    obtain ⟨hv31, N31q, e31⟩ := hQ31
    rw [show f5 s9_NOT_APPLICABLE s2_DENY s3_PERMIT s8_INDETERMINATE s9_NOT_APPLICABLE = s9_NOT_APPLICABLE from (if_neg (Ne.symm NE_s3_PERMIT_s9_NOT_APPLICABLE)).trans (if_neg (Ne.symm NE_s2_DENY_s9_NOT_APPLICABLE))] at hv31
    subst hv31
    have N31 := Fr.app N30 N31q
    obtain ⟨T32, X32, e32, st32⟩ := getS X31 hx hZ (host := "") hown (hw _ (List.mem_of_getElem? (i := 40) rfl)) Via.refl e31 S_ExtendedDecision_NOT_APPLICABLE (g := (mkF m 61 #[.val (.int p1), .val (.int (2 : Int32)), .val (.ref s4_NOT_APPLICABLE), .val (.ref s4_NOT_APPLICABLE), .val (.int (1 : Int32)), .val (.int (1 : Int32)), .unset, .unset] [(.ref s4_NOT_APPLICABLE)])) rfl (hb hby at_61)
    have h33 : (1 : Int32) = (1 : Int32) := by decide
    have h34 : ¬ ((1 : Int32) = (0 : Int32)) := by decide
    have h35 : ¬ ((1 : Int32) = (0 : Int32)) := by decide
    have h36 : ¬ ((1 : Int32) = (0 : Int32)) := by decide
    obtain ⟨fs, hr, hrun, hended, hW, hsame⟩ := X32.leave (v := some (.int (1 : Int32))) (fun h => by rw [Bd.returns] at h; cases h)
    refine ⟨_, _, ?_, hrun, hended, _, _, rfl, ?_, ⟨_, rfl⟩, hW, hsame.mono (by decide) (by decide)⟩
    · show Steps p.tables e below (s₁.setTop (mkF m 8 #[.val (.int p1), .val (.int (2 : Int32)), .unset, .unset, .unset, .unset, .unset, .unset] [])) _
      refine XS.iloadN X0.here hx rfl (hb hby at_8) rfl ?_
      show Steps p.tables e below (s₁.setTop (mkF m 9 #[.val (.int p1), .val (.int (2 : Int32)), .unset, .unset, .unset, .unset, .unset, .unset] [(.int (2 : Int32))])) _
      refine st26 _ ?_
      show Steps p.tables e below (T26.setTop (mkF m 12 #[.val (.int p1), .val (.int (2 : Int32)), .unset, .unset, .unset, .unset, .unset, .unset] [(.ref s4_NOT_APPLICABLE)])) _
      refine XS.astoreN X26.here hx rfl (hb hby at_12) rfl rfl (l' := #[.val (.int p1), .val (.int (2 : Int32)), .val (.ref s4_NOT_APPLICABLE), .unset, .unset, .unset, .unset, .unset]) rfl ?_
      show Steps p.tables e below (T26.setTop (mkF m 13 #[.val (.int p1), .val (.int (2 : Int32)), .val (.ref s4_NOT_APPLICABLE), .unset, .unset, .unset, .unset, .unset] [])) _
      refine XS.aloadN X26.here hx rfl (hb hby at_13) rfl rfl ?_
      show Steps p.tables e below (T26.setTop (mkF m 14 #[.val (.int p1), .val (.int (2 : Int32)), .val (.ref s4_NOT_APPLICABLE), .unset, .unset, .unset, .unset, .unset] [(.ref s4_NOT_APPLICABLE)])) _
      refine st27.trans ?_
      show Steps p.tables e below (T27.setTop (mkF m 17 #[.val (.int p1), .val (.int (2 : Int32)), .val (.ref s4_NOT_APPLICABLE), .unset, .unset, .unset, .unset, .unset] [(.ref s4_NOT_APPLICABLE)])) _
      refine XS.astoreN X27.here hx rfl (hb hby at_17) rfl rfl (l' := #[.val (.int p1), .val (.int (2 : Int32)), .val (.ref s4_NOT_APPLICABLE), .val (.ref s4_NOT_APPLICABLE), .unset, .unset, .unset, .unset]) rfl ?_
      show Steps p.tables e below (T27.setTop (mkF m 18 #[.val (.int p1), .val (.int (2 : Int32)), .val (.ref s4_NOT_APPLICABLE), .val (.ref s4_NOT_APPLICABLE), .unset, .unset, .unset, .unset] [])) _
      refine XS.aloadN X27.here hx rfl (hb hby at_18) rfl rfl ?_
      show Steps p.tables e below (T27.setTop (mkF m 19 #[.val (.int p1), .val (.int (2 : Int32)), .val (.ref s4_NOT_APPLICABLE), .val (.ref s4_NOT_APPLICABLE), .unset, .unset, .unset, .unset] [(.ref s4_NOT_APPLICABLE)])) _
      refine XT.ifnonnullYes X27.here hx rfl (pc0 := 19) (pc' := 24) rfl (hb hby at_19) rfl (by decide) (by decide) ?_
      show Steps p.tables e below (T27.setTop (mkF m 24 #[.val (.int p1), .val (.int (2 : Int32)), .val (.ref s4_NOT_APPLICABLE), .val (.ref s4_NOT_APPLICABLE), .unset, .unset, .unset, .unset] [])) _
      refine XS.aloadN X27.here hx rfl (hb hby at_24) rfl rfl ?_
      show Steps p.tables e below (T27.setTop (mkF m 25 #[.val (.int p1), .val (.int (2 : Int32)), .val (.ref s4_NOT_APPLICABLE), .val (.ref s4_NOT_APPLICABLE), .unset, .unset, .unset, .unset] [(.ref s4_NOT_APPLICABLE)])) _
      refine st28.trans ?_
      show Steps p.tables e below (T28.setTop (mkF m 28 #[.val (.int p1), .val (.int (2 : Int32)), .val (.ref s4_NOT_APPLICABLE), .val (.ref s4_NOT_APPLICABLE), .unset, .unset, .unset, .unset] [(.ref s4_NOT_APPLICABLE)])) _
      refine XS.aloadN X28.here hx rfl (hb hby at_28) rfl rfl ?_
      show Steps p.tables e below (T28.setTop (mkF m 29 #[.val (.int p1), .val (.int (2 : Int32)), .val (.ref s4_NOT_APPLICABLE), .val (.ref s4_NOT_APPLICABLE), .unset, .unset, .unset, .unset] [(.ref s4_NOT_APPLICABLE), (.ref s4_NOT_APPLICABLE)])) _
      refine XT.acmpNo X28.here hx rfl (hb hby at_29) rfl rfl rfl (own_aT rfl).2 ?_
      show Steps p.tables e below (T28.setTop (mkF m 32 #[.val (.int p1), .val (.int (2 : Int32)), .val (.ref s4_NOT_APPLICABLE), .val (.ref s4_NOT_APPLICABLE), .unset, .unset, .unset, .unset] [])) _
      refine XS.iconst X28.here hx rfl (hb hby at_32) ?_
      show Steps p.tables e below (T28.setTop (mkF m 33 #[.val (.int p1), .val (.int (2 : Int32)), .val (.ref s4_NOT_APPLICABLE), .val (.ref s4_NOT_APPLICABLE), .unset, .unset, .unset, .unset] [(.int (1 : Int32))])) _
      refine XS.goto X28.here hx rfl (pc0 := 33) (pc' := 37) rfl (hb hby at_33) (by decide) (by decide) ?_
      show Steps p.tables e below (T28.setTop (mkF m 37 #[.val (.int p1), .val (.int (2 : Int32)), .val (.ref s4_NOT_APPLICABLE), .val (.ref s4_NOT_APPLICABLE), .unset, .unset, .unset, .unset] [(.int (1 : Int32))])) _
      refine XS.istore X28.here hx rfl (hb hby at_37) rfl (l' := #[.val (.int p1), .val (.int (2 : Int32)), .val (.ref s4_NOT_APPLICABLE), .val (.ref s4_NOT_APPLICABLE), .val (.int (1 : Int32)), .unset, .unset, .unset]) rfl ?_
      show Steps p.tables e below (T28.setTop (mkF m 39 #[.val (.int p1), .val (.int (2 : Int32)), .val (.ref s4_NOT_APPLICABLE), .val (.ref s4_NOT_APPLICABLE), .val (.int (1 : Int32)), .unset, .unset, .unset] [])) _
      refine XS.aloadN X28.here hx rfl (hb hby at_39) rfl rfl ?_
      show Steps p.tables e below (T28.setTop (mkF m 40 #[.val (.int p1), .val (.int (2 : Int32)), .val (.ref s4_NOT_APPLICABLE), .val (.ref s4_NOT_APPLICABLE), .val (.int (1 : Int32)), .unset, .unset, .unset] [(.ref s4_NOT_APPLICABLE)])) _
      refine st29.trans ?_
      show Steps p.tables e below (T29.setTop (mkF m 43 #[.val (.int p1), .val (.int (2 : Int32)), .val (.ref s4_NOT_APPLICABLE), .val (.ref s4_NOT_APPLICABLE), .val (.int (1 : Int32)), .unset, .unset, .unset] [(.ref s9_NOT_APPLICABLE)])) _
      refine XS.aloadN X29.here hx rfl (hb hby at_43) rfl rfl ?_
      show Steps p.tables e below (T29.setTop (mkF m 44 #[.val (.int p1), .val (.int (2 : Int32)), .val (.ref s4_NOT_APPLICABLE), .val (.ref s4_NOT_APPLICABLE), .val (.int (1 : Int32)), .unset, .unset, .unset] [(.ref s4_NOT_APPLICABLE), (.ref s9_NOT_APPLICABLE)])) _
      refine st30.trans ?_
      show Steps p.tables e below (T30.setTop (mkF m 47 #[.val (.int p1), .val (.int (2 : Int32)), .val (.ref s4_NOT_APPLICABLE), .val (.ref s4_NOT_APPLICABLE), .val (.int (1 : Int32)), .unset, .unset, .unset] [(.ref s9_NOT_APPLICABLE), (.ref s9_NOT_APPLICABLE)])) _
      refine st31 _ ?_
      show Steps p.tables e below (T31.setTop (mkF m 50 #[.val (.int p1), .val (.int (2 : Int32)), .val (.ref s4_NOT_APPLICABLE), .val (.ref s4_NOT_APPLICABLE), .val (.int (1 : Int32)), .unset, .unset, .unset] [(.ref s9_NOT_APPLICABLE), (.ref s9_NOT_APPLICABLE)])) _
      refine XT.acmpNo X31.here hx rfl (hb hby at_50) rfl rfl rfl (own_aT rfl).2 ?_
      show Steps p.tables e below (T31.setTop (mkF m 53 #[.val (.int p1), .val (.int (2 : Int32)), .val (.ref s4_NOT_APPLICABLE), .val (.ref s4_NOT_APPLICABLE), .val (.int (1 : Int32)), .unset, .unset, .unset] [])) _
      refine XS.iconst X31.here hx rfl (hb hby at_53) ?_
      show Steps p.tables e below (T31.setTop (mkF m 54 #[.val (.int p1), .val (.int (2 : Int32)), .val (.ref s4_NOT_APPLICABLE), .val (.ref s4_NOT_APPLICABLE), .val (.int (1 : Int32)), .unset, .unset, .unset] [(.int (1 : Int32))])) _
      refine XS.goto X31.here hx rfl (pc0 := 54) (pc' := 58) rfl (hb hby at_54) (by decide) (by decide) ?_
      show Steps p.tables e below (T31.setTop (mkF m 58 #[.val (.int p1), .val (.int (2 : Int32)), .val (.ref s4_NOT_APPLICABLE), .val (.ref s4_NOT_APPLICABLE), .val (.int (1 : Int32)), .unset, .unset, .unset] [(.int (1 : Int32))])) _
      refine XS.istore X31.here hx rfl (hb hby at_58) rfl (l' := #[.val (.int p1), .val (.int (2 : Int32)), .val (.ref s4_NOT_APPLICABLE), .val (.ref s4_NOT_APPLICABLE), .val (.int (1 : Int32)), .val (.int (1 : Int32)), .unset, .unset]) rfl ?_
      show Steps p.tables e below (T31.setTop (mkF m 60 #[.val (.int p1), .val (.int (2 : Int32)), .val (.ref s4_NOT_APPLICABLE), .val (.ref s4_NOT_APPLICABLE), .val (.int (1 : Int32)), .val (.int (1 : Int32)), .unset, .unset] [])) _
      refine XS.aloadN X31.here hx rfl (hb hby at_60) rfl rfl ?_
      show Steps p.tables e below (T31.setTop (mkF m 61 #[.val (.int p1), .val (.int (2 : Int32)), .val (.ref s4_NOT_APPLICABLE), .val (.ref s4_NOT_APPLICABLE), .val (.int (1 : Int32)), .val (.int (1 : Int32)), .unset, .unset] [(.ref s4_NOT_APPLICABLE)])) _
      refine st32 _ ?_
      show Steps p.tables e below (T32.setTop (mkF m 64 #[.val (.int p1), .val (.int (2 : Int32)), .val (.ref s4_NOT_APPLICABLE), .val (.ref s4_NOT_APPLICABLE), .val (.int (1 : Int32)), .val (.int (1 : Int32)), .unset, .unset] [(.ref s4_NOT_APPLICABLE), (.ref s4_NOT_APPLICABLE)])) _
      refine XT.acmpYes X32.here hx rfl (pc0 := 64) (pc' := 74) rfl (hb hby at_64) rfl rfl rfl (own_aT rfl).1 (by decide) (by decide) ?_
      show Steps p.tables e below (T32.setTop (mkF m 74 #[.val (.int p1), .val (.int (2 : Int32)), .val (.ref s4_NOT_APPLICABLE), .val (.ref s4_NOT_APPLICABLE), .val (.int (1 : Int32)), .val (.int (1 : Int32)), .unset, .unset] [])) _
      refine XS.iconst X32.here hx rfl (hb hby at_74) ?_
      show Steps p.tables e below (T32.setTop (mkF m 75 #[.val (.int p1), .val (.int (2 : Int32)), .val (.ref s4_NOT_APPLICABLE), .val (.ref s4_NOT_APPLICABLE), .val (.int (1 : Int32)), .val (.int (1 : Int32)), .unset, .unset] [(.int (1 : Int32))])) _
      refine XS.goto X32.here hx rfl (pc0 := 75) (pc' := 79) rfl (hb hby at_75) (by decide) (by decide) ?_
      show Steps p.tables e below (T32.setTop (mkF m 79 #[.val (.int p1), .val (.int (2 : Int32)), .val (.ref s4_NOT_APPLICABLE), .val (.ref s4_NOT_APPLICABLE), .val (.int (1 : Int32)), .val (.int (1 : Int32)), .unset, .unset] [(.int (1 : Int32))])) _
      refine XS.istore X32.here hx rfl (hb hby at_79) rfl (l' := #[.val (.int p1), .val (.int (2 : Int32)), .val (.ref s4_NOT_APPLICABLE), .val (.ref s4_NOT_APPLICABLE), .val (.int (1 : Int32)), .val (.int (1 : Int32)), .val (.int (1 : Int32)), .unset]) rfl ?_
      show Steps p.tables e below (T32.setTop (mkF m 81 #[.val (.int p1), .val (.int (2 : Int32)), .val (.ref s4_NOT_APPLICABLE), .val (.ref s4_NOT_APPLICABLE), .val (.int (1 : Int32)), .val (.int (1 : Int32)), .val (.int (1 : Int32)), .unset] [])) _
      refine XS.aloadN X32.here hx rfl (hb hby at_81) rfl rfl ?_
      show Steps p.tables e below (T32.setTop (mkF m 82 #[.val (.int p1), .val (.int (2 : Int32)), .val (.ref s4_NOT_APPLICABLE), .val (.ref s4_NOT_APPLICABLE), .val (.int (1 : Int32)), .val (.int (1 : Int32)), .val (.int (1 : Int32)), .unset] [(.ref s4_NOT_APPLICABLE)])) _
      refine XS.aloadN X32.here hx rfl (hb hby at_82) rfl rfl ?_
      show Steps p.tables e below (T32.setTop (mkF m 83 #[.val (.int p1), .val (.int (2 : Int32)), .val (.ref s4_NOT_APPLICABLE), .val (.ref s4_NOT_APPLICABLE), .val (.int (1 : Int32)), .val (.int (1 : Int32)), .val (.int (1 : Int32)), .unset] [(.ref s4_NOT_APPLICABLE), (.ref s4_NOT_APPLICABLE)])) _
      refine XT.acmpNo X32.here hx rfl (hb hby at_83) rfl rfl rfl (own_aT rfl).2 ?_
      show Steps p.tables e below (T32.setTop (mkF m 86 #[.val (.int p1), .val (.int (2 : Int32)), .val (.ref s4_NOT_APPLICABLE), .val (.ref s4_NOT_APPLICABLE), .val (.int (1 : Int32)), .val (.int (1 : Int32)), .val (.int (1 : Int32)), .unset] [])) _
      refine XS.iconst X32.here hx rfl (hb hby at_86) ?_
      show Steps p.tables e below (T32.setTop (mkF m 87 #[.val (.int p1), .val (.int (2 : Int32)), .val (.ref s4_NOT_APPLICABLE), .val (.ref s4_NOT_APPLICABLE), .val (.int (1 : Int32)), .val (.int (1 : Int32)), .val (.int (1 : Int32)), .unset] [(.int (1 : Int32))])) _
      refine XS.goto X32.here hx rfl (pc0 := 87) (pc' := 91) rfl (hb hby at_87) (by decide) (by decide) ?_
      show Steps p.tables e below (T32.setTop (mkF m 91 #[.val (.int p1), .val (.int (2 : Int32)), .val (.ref s4_NOT_APPLICABLE), .val (.ref s4_NOT_APPLICABLE), .val (.int (1 : Int32)), .val (.int (1 : Int32)), .val (.int (1 : Int32)), .unset] [(.int (1 : Int32))])) _
      refine XS.iload X32.here hx rfl (hb hby at_91) rfl ?_
      show Steps p.tables e below (T32.setTop (mkF m 93 #[.val (.int p1), .val (.int (2 : Int32)), .val (.ref s4_NOT_APPLICABLE), .val (.ref s4_NOT_APPLICABLE), .val (.int (1 : Int32)), .val (.int (1 : Int32)), .val (.int (1 : Int32)), .unset] [(.int (1 : Int32)), (.int (1 : Int32))])) _
      refine XS.icmpNo X32.here hx rfl (hb hby at_93) rfl (teq h33).2 ?_
      show Steps p.tables e below (T32.setTop (mkF m 96 #[.val (.int p1), .val (.int (2 : Int32)), .val (.ref s4_NOT_APPLICABLE), .val (.ref s4_NOT_APPLICABLE), .val (.int (1 : Int32)), .val (.int (1 : Int32)), .val (.int (1 : Int32)), .unset] [])) _
      refine XS.iconst X32.here hx rfl (hb hby at_96) ?_
      show Steps p.tables e below (T32.setTop (mkF m 97 #[.val (.int p1), .val (.int (2 : Int32)), .val (.ref s4_NOT_APPLICABLE), .val (.ref s4_NOT_APPLICABLE), .val (.int (1 : Int32)), .val (.int (1 : Int32)), .val (.int (1 : Int32)), .unset] [(.int (1 : Int32))])) _
      refine XS.goto X32.here hx rfl (pc0 := 97) (pc' := 101) rfl (hb hby at_97) (by decide) (by decide) ?_
      show Steps p.tables e below (T32.setTop (mkF m 101 #[.val (.int p1), .val (.int (2 : Int32)), .val (.ref s4_NOT_APPLICABLE), .val (.ref s4_NOT_APPLICABLE), .val (.int (1 : Int32)), .val (.int (1 : Int32)), .val (.int (1 : Int32)), .unset] [(.int (1 : Int32))])) _
      refine XS.istore X32.here hx rfl (hb hby at_101) rfl (l' := #[.val (.int p1), .val (.int (2 : Int32)), .val (.ref s4_NOT_APPLICABLE), .val (.ref s4_NOT_APPLICABLE), .val (.int (1 : Int32)), .val (.int (1 : Int32)), .val (.int (1 : Int32)), .val (.int (1 : Int32))]) rfl ?_
      show Steps p.tables e below (T32.setTop (mkF m 103 #[.val (.int p1), .val (.int (2 : Int32)), .val (.ref s4_NOT_APPLICABLE), .val (.ref s4_NOT_APPLICABLE), .val (.int (1 : Int32)), .val (.int (1 : Int32)), .val (.int (1 : Int32)), .val (.int (1 : Int32))] [])) _
      refine XS.iload X32.here hx rfl (hb hby at_103) rfl ?_
      show Steps p.tables e below (T32.setTop (mkF m 105 #[.val (.int p1), .val (.int (2 : Int32)), .val (.ref s4_NOT_APPLICABLE), .val (.ref s4_NOT_APPLICABLE), .val (.int (1 : Int32)), .val (.int (1 : Int32)), .val (.int (1 : Int32)), .val (.int (1 : Int32))] [(.int (1 : Int32))])) _
      refine XS.ifNo X32.here hx rfl (hb hby at_105) rfl ((if0 _ _).trans (feq h34).1) ?_
      show Steps p.tables e below (T32.setTop (mkF m 108 #[.val (.int p1), .val (.int (2 : Int32)), .val (.ref s4_NOT_APPLICABLE), .val (.ref s4_NOT_APPLICABLE), .val (.int (1 : Int32)), .val (.int (1 : Int32)), .val (.int (1 : Int32)), .val (.int (1 : Int32))] [])) _
      refine XS.iload X32.here hx rfl (hb hby at_108) rfl ?_
      show Steps p.tables e below (T32.setTop (mkF m 110 #[.val (.int p1), .val (.int (2 : Int32)), .val (.ref s4_NOT_APPLICABLE), .val (.ref s4_NOT_APPLICABLE), .val (.int (1 : Int32)), .val (.int (1 : Int32)), .val (.int (1 : Int32)), .val (.int (1 : Int32))] [(.int (1 : Int32))])) _
      refine XS.ifNo X32.here hx rfl (hb hby at_110) rfl ((if0 _ _).trans (feq h35).1) ?_
      show Steps p.tables e below (T32.setTop (mkF m 113 #[.val (.int p1), .val (.int (2 : Int32)), .val (.ref s4_NOT_APPLICABLE), .val (.ref s4_NOT_APPLICABLE), .val (.int (1 : Int32)), .val (.int (1 : Int32)), .val (.int (1 : Int32)), .val (.int (1 : Int32))] [])) _
      refine XS.iload X32.here hx rfl (hb hby at_113) rfl ?_
      show Steps p.tables e below (T32.setTop (mkF m 115 #[.val (.int p1), .val (.int (2 : Int32)), .val (.ref s4_NOT_APPLICABLE), .val (.ref s4_NOT_APPLICABLE), .val (.int (1 : Int32)), .val (.int (1 : Int32)), .val (.int (1 : Int32)), .val (.int (1 : Int32))] [(.int (1 : Int32))])) _
      refine XS.ifNo X32.here hx rfl (hb hby at_115) rfl ((if0 _ _).trans (feq h36).1) ?_
      show Steps p.tables e below (T32.setTop (mkF m 118 #[.val (.int p1), .val (.int (2 : Int32)), .val (.ref s4_NOT_APPLICABLE), .val (.ref s4_NOT_APPLICABLE), .val (.int (1 : Int32)), .val (.int (1 : Int32)), .val (.int (1 : Int32)), .val (.int (1 : Int32))] [])) _
      refine XS.iconst X32.here hx rfl (hb hby at_118) ?_
      show Steps p.tables e below (T32.setTop (mkF m 119 #[.val (.int p1), .val (.int (2 : Int32)), .val (.ref s4_NOT_APPLICABLE), .val (.ref s4_NOT_APPLICABLE), .val (.int (1 : Int32)), .val (.int (1 : Int32)), .val (.int (1 : Int32)), .val (.int (1 : Int32))] [(.int (1 : Int32))])) _
      refine XS.goto X32.here hx rfl (pc0 := 119) (pc' := 123) rfl (hb hby at_119) (by decide) (by decide) ?_
      show Steps p.tables e below (T32.setTop (mkF m 123 #[.val (.int p1), .val (.int (2 : Int32)), .val (.ref s4_NOT_APPLICABLE), .val (.ref s4_NOT_APPLICABLE), .val (.int (1 : Int32)), .val (.int (1 : Int32)), .val (.int (1 : Int32)), .val (.int (1 : Int32))] [(.int (1 : Int32))])) _
      exact retN X32 hx (t := .boolean) Bd.returns (by simp) (hb hby at_123) hr
    · show Q0 Z p1 s0_PERMIT s1_DENY s2_DENY s3_PERMIT s4_NOT_APPLICABLE s5_INDETERMINATE_DP s6_INDETERMINATE_D s7_INDETERMINATE_P s8_INDETERMINATE s9_NOT_APPLICABLE h0 n0 _ T32.heap _
      rw [e32]
      exact ⟨rfl, N31⟩
  · rw [hk1]
    obtain ⟨_, _, ⟨T37, L37, k37, n37⟩, -, X37, ⟨Lc37, hQ37, l37, y37, z37⟩, st37⟩ := Jvm.LawKit.callS X0 hx (y := (⟨"com/example/verdikt/verdikt/model/ExtendedDecisionMirrorPinLaw", "pick", "(I)Lcom/example/verdikt/verdikt/model/ExtendedDecision;"⟩ : MethodName)) hown (mvT hZ (hw _ (List.mem_of_getElem? (i := 1) rfl))) (mvT hZ (hw _ (List.mem_of_getElem? (i := 2) rfl))) (mvT hZ (hw _ (List.mem_of_getElem? (i := 3) rfl))) (mvT hZ (hw _ (List.mem_of_getElem? (i := 4) rfl))) (by decide) (backOf (W := 0) (rm1 l Z a0 hw [] (3 : Int32) s0_PERMIT s1_DENY s4_NOT_APPLICABLE s5_INDETERMINATE_DP s6_INDETERMINATE_D s7_INDETERMINATE_P h0 n0 Z0 S_ExtendedDecision_PERMIT S_ExtendedDecision_DENY S_ExtendedDecision_NOT_APPLICABLE S_ExtendedDecision_INDETERMINATE_DP S_ExtendedDecision_INDETERMINATE_D S_ExtendedDecision_INDETERMINATE_P) hZ (hw _ (List.mem_of_getElem? (i := 4) rfl)) (hw _ (List.mem_of_getElem? (i := 3) rfl)) (by decide) (by decide)) (g := (mkF m 9 #[.val (.int p1), .val (.int (3 : Int32)), .unset, .unset, .unset, .unset, .unset, .unset] [(.int (3 : Int32))])) rfl (by rw [hml]; rfl) (argsL := [(.int (3 : Int32))]) (rest := []) (lenOf pd_1 rfl) rfl (by show 2 * 0 + _ ≤ _; exact Nat.le_of_eq rfl) (hb hby at_9) (fun _ _ => ⟨rfl, e0, (by decide : 0 + 0 ≤ _), (by decide : 0 + 0 ≤ _)⟩)
    dsimp only [Pt.U, Pt.locs, Pt.cells, Pt.slots] at X37 l37 y37 z37 st37 hQ37
    subst l37 y37 z37
    obtain ⟨hv37, N37q, e37⟩ := hQ37
    rw [show f1 (3 : Int32) s0_PERMIT s1_DENY s4_NOT_APPLICABLE s5_INDETERMINATE_DP s6_INDETERMINATE_D s7_INDETERMINATE_P = s6_INDETERMINATE_D from (if_neg (by decide)).trans ((if_neg (by decide)).trans ((if_neg (by decide)).trans (if_pos (by decide))))] at hv37
    subst hv37
    have N37 := Fr.app N0 N37q
    obtain ⟨cq38, kq38, q38a, q38b, q38c⟩ := isOf hZ e37 E_s6_INDETERMINATE_D
    obtain ⟨_, _, ⟨T38, L38, k38, n38⟩, -, X38, ⟨Lc38, hQ38, l38, y38, z38⟩, st38⟩ := X37.virtualBack hx (y := (⟨"com/example/verdikt/verdikt/model/ExtendedDecision", "mirror", "()Lcom/example/verdikt/verdikt/model/ExtendedDecision;"⟩ : MethodName)) (z := (⟨"com/example/verdikt/verdikt/model/ExtendedDecision", "mirror", "()Lcom/example/verdikt/verdikt/model/ExtendedDecision;"⟩ : MethodName)) hown (mvT hZ (hw _ (List.mem_of_getElem? (i := 8) rfl))) (mvT hZ (hw _ (List.mem_of_getElem? (i := 9) rfl))) (notFace_of_selects (args := #[]) (mvT hZ (hw _ (List.mem_of_getElem? (i := 11) rfl)))) (mvT hZ (hw _ (List.mem_of_getElem? (i := 11) rfl))) (mvT hZ (hw _ (List.mem_of_getElem? (i := 10) rfl))) (by decide) (backOf (W := 0) (rmm3 l Z a0 hw [] s6_INDETERMINATE_D s0_PERMIT s1_DENY s4_NOT_APPLICABLE s5_INDETERMINATE_DP s6_INDETERMINATE_D s7_INDETERMINATE_P h0 n0 Z0 E_s6_INDETERMINATE_D F_s6_INDETERMINATE_D_ordinal S_ExtendedDecision_PERMIT S_ExtendedDecision_DENY S_ExtendedDecision_NOT_APPLICABLE S_ExtendedDecision_INDETERMINATE_DP S_ExtendedDecision_INDETERMINATE_D S_ExtendedDecision_INDETERMINATE_P) hZ (hw _ (List.mem_of_getElem? (i := 12) rfl)) (hw _ (List.mem_of_getElem? (i := 6) rfl)) (by decide) (by decide)) q38a q38c (g := (mkF m 14 #[.val (.int p1), .val (.int (3 : Int32)), .val (.ref s6_INDETERMINATE_D), .unset, .unset, .unset, .unset, .unset] [(.ref s6_INDETERMINATE_D)])) rfl (by rw [hml]; rfl) (Steps.refl _) (argsL := []) (rest := []) (lenOf pd_2 rfl) rfl (by show 2 * 0 + _ ≤ _; exact Nat.le_of_eq rfl) (hb hby at_14) (fun _ _ => ⟨rfl, e37, (by decide : 0 + 0 ≤ _), (by decide : 0 + 0 ≤ _)⟩)
    dsimp only [Pt.U, Pt.locs, Pt.cells, Pt.slots] at X38 l38 y38 z38 st38 hQ38
    subst l38 y38 z38
    obtain ⟨hv38, N38q, e38⟩ := hQ38
    rw [show fm3 s6_INDETERMINATE_D s0_PERMIT s1_DENY s4_NOT_APPLICABLE s5_INDETERMINATE_DP s6_INDETERMINATE_D s7_INDETERMINATE_P = s7_INDETERMINATE_P from rfl] at hv38
    subst hv38
    have N38 := Fr.app N37 N38q
    obtain ⟨cq39, kq39, q39a, q39b, q39c⟩ := isOf hZ e38 E_s7_INDETERMINATE_P
    obtain ⟨_, _, ⟨T39, L39, k39, n39⟩, -, X39, ⟨Lc39, hQ39, l39, y39, z39⟩, st39⟩ := X38.virtualBack hx (y := (⟨"com/example/verdikt/verdikt/model/ExtendedDecision", "mirror", "()Lcom/example/verdikt/verdikt/model/ExtendedDecision;"⟩ : MethodName)) (z := (⟨"com/example/verdikt/verdikt/model/ExtendedDecision", "mirror", "()Lcom/example/verdikt/verdikt/model/ExtendedDecision;"⟩ : MethodName)) hown (mvT hZ (hw _ (List.mem_of_getElem? (i := 8) rfl))) (mvT hZ (hw _ (List.mem_of_getElem? (i := 9) rfl))) (notFace_of_selects (args := #[]) (mvT hZ (hw _ (List.mem_of_getElem? (i := 11) rfl)))) (mvT hZ (hw _ (List.mem_of_getElem? (i := 11) rfl))) (mvT hZ (hw _ (List.mem_of_getElem? (i := 10) rfl))) (by decide) (backOf (W := 0) (rmm4 l Z a0 hw [] s7_INDETERMINATE_P s0_PERMIT s1_DENY s4_NOT_APPLICABLE s5_INDETERMINATE_DP s6_INDETERMINATE_D s7_INDETERMINATE_P h0 n0 Z0 E_s7_INDETERMINATE_P F_s7_INDETERMINATE_P_ordinal S_ExtendedDecision_PERMIT S_ExtendedDecision_DENY S_ExtendedDecision_NOT_APPLICABLE S_ExtendedDecision_INDETERMINATE_DP S_ExtendedDecision_INDETERMINATE_D S_ExtendedDecision_INDETERMINATE_P) hZ (hw _ (List.mem_of_getElem? (i := 12) rfl)) (hw _ (List.mem_of_getElem? (i := 6) rfl)) (by decide) (by decide)) q39a q39c (g := (mkF m 25 #[.val (.int p1), .val (.int (3 : Int32)), .val (.ref s6_INDETERMINATE_D), .val (.ref s7_INDETERMINATE_P), .unset, .unset, .unset, .unset] [(.ref s7_INDETERMINATE_P)])) rfl (by rw [hml]; rfl) (Steps.refl _) (argsL := []) (rest := []) (lenOf pd_2 rfl) rfl (by show 2 * 0 + _ ≤ _; exact Nat.le_of_eq rfl) (hb hby at_25) (fun _ _ => ⟨rfl, e38, (by decide : 0 + 0 ≤ _), (by decide : 0 + 0 ≤ _)⟩)
    dsimp only [Pt.U, Pt.locs, Pt.cells, Pt.slots] at X39 l39 y39 z39 st39 hQ39
    subst l39 y39 z39
    obtain ⟨hv39, N39q, e39⟩ := hQ39
    rw [show fm4 s7_INDETERMINATE_P s0_PERMIT s1_DENY s4_NOT_APPLICABLE s5_INDETERMINATE_DP s6_INDETERMINATE_D s7_INDETERMINATE_P = s6_INDETERMINATE_D from rfl] at hv39
    subst hv39
    have N39 := Fr.app N38 N39q
    obtain ⟨cq40, kq40, q40a, q40b, q40c⟩ := isOf hZ e39 E_s7_INDETERMINATE_P
    obtain ⟨_, _, ⟨T40, L40, k40, n40⟩, -, X40, ⟨Lc40, hQ40, l40, y40, z40⟩, st40⟩ := X39.virtualBack hx (y := (⟨"com/example/verdikt/verdikt/model/ExtendedDecision", "decision", "()Lcom/example/verdikt/verdikt/model/Decision;"⟩ : MethodName)) (z := (⟨"com/example/verdikt/verdikt/model/ExtendedDecision", "decision", "()Lcom/example/verdikt/verdikt/model/Decision;"⟩ : MethodName)) hown (mvT hZ (hw _ (List.mem_of_getElem? (i := 25) rfl))) (mvT hZ (hw _ (List.mem_of_getElem? (i := 26) rfl))) (notFace_of_selects (args := #[]) (mvT hZ (hw _ (List.mem_of_getElem? (i := 28) rfl)))) (mvT hZ (hw _ (List.mem_of_getElem? (i := 28) rfl))) (mvT hZ (hw _ (List.mem_of_getElem? (i := 27) rfl))) (by decide) (backOf (W := 0) (rm4 l Z a0 hw [] s7_INDETERMINATE_P s8_INDETERMINATE h0 n0 Z0 F_s7_INDETERMINATE_P_decision) hZ (hw _ (List.mem_of_getElem? (i := 29) rfl)) (hw _ (List.mem_of_getElem? (i := 6) rfl)) (by decide) (by decide)) q40a q40c (g := (mkF m 40 #[.val (.int p1), .val (.int (3 : Int32)), .val (.ref s6_INDETERMINATE_D), .val (.ref s7_INDETERMINATE_P), .val (.int (1 : Int32)), .unset, .unset, .unset] [(.ref s7_INDETERMINATE_P)])) rfl (by rw [hml]; rfl) (Steps.refl _) (argsL := []) (rest := []) (lenOf pd_3 rfl) rfl (by show 2 * 0 + _ ≤ _; exact Nat.le_of_eq rfl) (hb hby at_40) (fun _ _ => ⟨rfl, e39, (by decide : 0 + 0 ≤ _), (by decide : 0 + 0 ≤ _)⟩)
    dsimp only [Pt.U, Pt.locs, Pt.cells, Pt.slots] at X40 l40 y40 z40 st40 hQ40
    subst l40 y40 z40
    obtain ⟨hv40, N40q, e40⟩ := hQ40
    rw [show f4 s7_INDETERMINATE_P s8_INDETERMINATE = s8_INDETERMINATE from rfl] at hv40
    subst hv40
    have N40 := Fr.app N39 N40q
    obtain ⟨cq41, kq41, q41a, q41b, q41c⟩ := isOf hZ e40 E_s6_INDETERMINATE_D
    obtain ⟨_, _, ⟨T41, L41, k41, n41⟩, -, X41, ⟨Lc41, hQ41, l41, y41, z41⟩, st41⟩ := X40.virtualBack hx (y := (⟨"com/example/verdikt/verdikt/model/ExtendedDecision", "decision", "()Lcom/example/verdikt/verdikt/model/Decision;"⟩ : MethodName)) (z := (⟨"com/example/verdikt/verdikt/model/ExtendedDecision", "decision", "()Lcom/example/verdikt/verdikt/model/Decision;"⟩ : MethodName)) hown (mvT hZ (hw _ (List.mem_of_getElem? (i := 25) rfl))) (mvT hZ (hw _ (List.mem_of_getElem? (i := 26) rfl))) (notFace_of_selects (args := #[]) (mvT hZ (hw _ (List.mem_of_getElem? (i := 28) rfl)))) (mvT hZ (hw _ (List.mem_of_getElem? (i := 28) rfl))) (mvT hZ (hw _ (List.mem_of_getElem? (i := 27) rfl))) (by decide) (backOf (W := 1) (rm4 l Z a0 hw [] s6_INDETERMINATE_D s8_INDETERMINATE h0 n0 Z0 F_s6_INDETERMINATE_D_decision) hZ (hw _ (List.mem_of_getElem? (i := 29) rfl)) (hw _ (List.mem_of_getElem? (i := 6) rfl)) (by decide) (by decide)) q41a q41c (g := (mkF m 44 #[.val (.int p1), .val (.int (3 : Int32)), .val (.ref s6_INDETERMINATE_D), .val (.ref s7_INDETERMINATE_P), .val (.int (1 : Int32)), .unset, .unset, .unset] [(.ref s6_INDETERMINATE_D), (.ref s8_INDETERMINATE)])) rfl (by rw [hml]; rfl) (Steps.refl _) (argsL := []) (rest := [(.ref s8_INDETERMINATE)]) (lenOf pd_3 rfl) rfl (by show 2 * 0 + _ ≤ _; exact Nat.le_of_eq rfl) (hb hby at_44) (fun _ _ => ⟨rfl, e40, (by decide : 0 + 0 ≤ _), (by decide : 0 + 0 ≤ _)⟩)
    dsimp only [Pt.U, Pt.locs, Pt.cells, Pt.slots] at X41 l41 y41 z41 st41 hQ41
    subst l41 y41 z41
    obtain ⟨hv41, N41q, e41⟩ := hQ41
    rw [show f4 s6_INDETERMINATE_D s8_INDETERMINATE = s8_INDETERMINATE from rfl] at hv41
    subst hv41
    have N41 := Fr.app N40 N41q
    obtain ⟨_, _, ⟨T42, L42, k42, n42⟩, -, X42, ⟨Lc42, hQ42, l42, y42, z42⟩, st42⟩ := Jvm.LawKit.callS X41 hx (y := (⟨"com/example/verdikt/verdikt/model/ExtendedDecisionMirrorPinLaw", "swap", "(Lcom/example/verdikt/verdikt/model/Decision;)Lcom/example/verdikt/verdikt/model/Decision;"⟩ : MethodName)) hown (mvT hZ (hw _ (List.mem_of_getElem? (i := 35) rfl))) (mvT hZ (hw _ (List.mem_of_getElem? (i := 36) rfl))) (mvT hZ (hw _ (List.mem_of_getElem? (i := 3) rfl))) (mvT hZ (hw _ (List.mem_of_getElem? (i := 37) rfl))) (by decide) (backOf (W := 1) (rm5 l Z a0 hw [] s8_INDETERMINATE s2_DENY s3_PERMIT s8_INDETERMINATE s9_NOT_APPLICABLE h0 n0 Z0 S_Decision_DENY S_Decision_PERMIT S_Decision_INDETERMINATE S_Decision_NOT_APPLICABLE) hZ (hw _ (List.mem_of_getElem? (i := 37) rfl)) (hw _ (List.mem_of_getElem? (i := 3) rfl)) (by decide) (by decide)) (g := (mkF m 47 #[.val (.int p1), .val (.int (3 : Int32)), .val (.ref s6_INDETERMINATE_D), .val (.ref s7_INDETERMINATE_P), .val (.int (1 : Int32)), .unset, .unset, .unset] [(.ref s8_INDETERMINATE), (.ref s8_INDETERMINATE)])) rfl (by rw [hml]; rfl) (argsL := [(.ref s8_INDETERMINATE)]) (rest := [(.ref s8_INDETERMINATE)]) (lenOf pd_4 rfl) rfl (by show 2 * 0 + _ ≤ _; exact Nat.le_of_eq rfl) (hb hby at_47) (fun _ _ => ⟨rfl, e41, (by decide : 0 + 0 ≤ _), (by decide : 0 + 0 ≤ _)⟩)
    dsimp only [Pt.U, Pt.locs, Pt.cells, Pt.slots] at X42 l42 y42 z42 st42 hQ42
    subst l42 y42 z42
    obtain ⟨hv42, N42q, e42⟩ := hQ42
    rw [show f5 s8_INDETERMINATE s2_DENY s3_PERMIT s8_INDETERMINATE s9_NOT_APPLICABLE = s8_INDETERMINATE from (if_neg NE_s8_INDETERMINATE_s3_PERMIT).trans (if_neg NE_s8_INDETERMINATE_s2_DENY)] at hv42
    subst hv42
    have N42 := Fr.app N41 N42q
    obtain ⟨T43, X43, e43, st43⟩ := getS X42 hx hZ (host := "") hown (hw _ (List.mem_of_getElem? (i := 40) rfl)) Via.refl e42 S_ExtendedDecision_NOT_APPLICABLE (g := (mkF m 61 #[.val (.int p1), .val (.int (3 : Int32)), .val (.ref s6_INDETERMINATE_D), .val (.ref s7_INDETERMINATE_P), .val (.int (1 : Int32)), .val (.int (1 : Int32)), .unset, .unset] [(.ref s6_INDETERMINATE_D)])) rfl (hb hby at_61)
    obtain ⟨T44, X44, e44, st44⟩ := getS X43 hx hZ (host := "") hown (hw _ (List.mem_of_getElem? (i := 42) rfl)) Via.refl e43 S_ExtendedDecision_INDETERMINATE_DP (g := (mkF m 68 #[.val (.int p1), .val (.int (3 : Int32)), .val (.ref s6_INDETERMINATE_D), .val (.ref s7_INDETERMINATE_P), .val (.int (1 : Int32)), .val (.int (1 : Int32)), .unset, .unset] [(.ref s6_INDETERMINATE_D)])) rfl (hb hby at_68)
    have h45 : (0 : Int32) = (0 : Int32) := by decide
    have h46 : ¬ ((1 : Int32) = (0 : Int32)) := by decide
    have h47 : ¬ ((1 : Int32) = (0 : Int32)) := by decide
    have h48 : ¬ ((1 : Int32) = (0 : Int32)) := by decide
    obtain ⟨fs, hr, hrun, hended, hW, hsame⟩ := X44.leave (v := some (.int (1 : Int32))) (fun h => by rw [Bd.returns] at h; cases h)
    refine ⟨_, _, ?_, hrun, hended, _, _, rfl, ?_, ⟨_, rfl⟩, hW, hsame.mono (by decide) (by decide)⟩
    · show Steps p.tables e below (s₁.setTop (mkF m 8 #[.val (.int p1), .val (.int (3 : Int32)), .unset, .unset, .unset, .unset, .unset, .unset] [])) _
      refine XS.iloadN X0.here hx rfl (hb hby at_8) rfl ?_
      show Steps p.tables e below (s₁.setTop (mkF m 9 #[.val (.int p1), .val (.int (3 : Int32)), .unset, .unset, .unset, .unset, .unset, .unset] [(.int (3 : Int32))])) _
      refine st37 _ ?_
      show Steps p.tables e below (T37.setTop (mkF m 12 #[.val (.int p1), .val (.int (3 : Int32)), .unset, .unset, .unset, .unset, .unset, .unset] [(.ref s6_INDETERMINATE_D)])) _
      refine XS.astoreN X37.here hx rfl (hb hby at_12) rfl rfl (l' := #[.val (.int p1), .val (.int (3 : Int32)), .val (.ref s6_INDETERMINATE_D), .unset, .unset, .unset, .unset, .unset]) rfl ?_
      show Steps p.tables e below (T37.setTop (mkF m 13 #[.val (.int p1), .val (.int (3 : Int32)), .val (.ref s6_INDETERMINATE_D), .unset, .unset, .unset, .unset, .unset] [])) _
      refine XS.aloadN X37.here hx rfl (hb hby at_13) rfl rfl ?_
      show Steps p.tables e below (T37.setTop (mkF m 14 #[.val (.int p1), .val (.int (3 : Int32)), .val (.ref s6_INDETERMINATE_D), .unset, .unset, .unset, .unset, .unset] [(.ref s6_INDETERMINATE_D)])) _
      refine st38.trans ?_
      show Steps p.tables e below (T38.setTop (mkF m 17 #[.val (.int p1), .val (.int (3 : Int32)), .val (.ref s6_INDETERMINATE_D), .unset, .unset, .unset, .unset, .unset] [(.ref s7_INDETERMINATE_P)])) _
      refine XS.astoreN X38.here hx rfl (hb hby at_17) rfl rfl (l' := #[.val (.int p1), .val (.int (3 : Int32)), .val (.ref s6_INDETERMINATE_D), .val (.ref s7_INDETERMINATE_P), .unset, .unset, .unset, .unset]) rfl ?_
      show Steps p.tables e below (T38.setTop (mkF m 18 #[.val (.int p1), .val (.int (3 : Int32)), .val (.ref s6_INDETERMINATE_D), .val (.ref s7_INDETERMINATE_P), .unset, .unset, .unset, .unset] [])) _
      refine XS.aloadN X38.here hx rfl (hb hby at_18) rfl rfl ?_
      show Steps p.tables e below (T38.setTop (mkF m 19 #[.val (.int p1), .val (.int (3 : Int32)), .val (.ref s6_INDETERMINATE_D), .val (.ref s7_INDETERMINATE_P), .unset, .unset, .unset, .unset] [(.ref s7_INDETERMINATE_P)])) _
      refine XT.ifnonnullYes X38.here hx rfl (pc0 := 19) (pc' := 24) rfl (hb hby at_19) rfl (by decide) (by decide) ?_
      show Steps p.tables e below (T38.setTop (mkF m 24 #[.val (.int p1), .val (.int (3 : Int32)), .val (.ref s6_INDETERMINATE_D), .val (.ref s7_INDETERMINATE_P), .unset, .unset, .unset, .unset] [])) _
      refine XS.aloadN X38.here hx rfl (hb hby at_24) rfl rfl ?_
      show Steps p.tables e below (T38.setTop (mkF m 25 #[.val (.int p1), .val (.int (3 : Int32)), .val (.ref s6_INDETERMINATE_D), .val (.ref s7_INDETERMINATE_P), .unset, .unset, .unset, .unset] [(.ref s7_INDETERMINATE_P)])) _
      refine st39.trans ?_
      show Steps p.tables e below (T39.setTop (mkF m 28 #[.val (.int p1), .val (.int (3 : Int32)), .val (.ref s6_INDETERMINATE_D), .val (.ref s7_INDETERMINATE_P), .unset, .unset, .unset, .unset] [(.ref s6_INDETERMINATE_D)])) _
      refine XS.aloadN X39.here hx rfl (hb hby at_28) rfl rfl ?_
      show Steps p.tables e below (T39.setTop (mkF m 29 #[.val (.int p1), .val (.int (3 : Int32)), .val (.ref s6_INDETERMINATE_D), .val (.ref s7_INDETERMINATE_P), .unset, .unset, .unset, .unset] [(.ref s6_INDETERMINATE_D), (.ref s6_INDETERMINATE_D)])) _
      refine XT.acmpNo X39.here hx rfl (hb hby at_29) rfl rfl rfl (own_aT rfl).2 ?_
      show Steps p.tables e below (T39.setTop (mkF m 32 #[.val (.int p1), .val (.int (3 : Int32)), .val (.ref s6_INDETERMINATE_D), .val (.ref s7_INDETERMINATE_P), .unset, .unset, .unset, .unset] [])) _
      refine XS.iconst X39.here hx rfl (hb hby at_32) ?_
      show Steps p.tables e below (T39.setTop (mkF m 33 #[.val (.int p1), .val (.int (3 : Int32)), .val (.ref s6_INDETERMINATE_D), .val (.ref s7_INDETERMINATE_P), .unset, .unset, .unset, .unset] [(.int (1 : Int32))])) _
      refine XS.goto X39.here hx rfl (pc0 := 33) (pc' := 37) rfl (hb hby at_33) (by decide) (by decide) ?_
      show Steps p.tables e below (T39.setTop (mkF m 37 #[.val (.int p1), .val (.int (3 : Int32)), .val (.ref s6_INDETERMINATE_D), .val (.ref s7_INDETERMINATE_P), .unset, .unset, .unset, .unset] [(.int (1 : Int32))])) _
      refine XS.istore X39.here hx rfl (hb hby at_37) rfl (l' := #[.val (.int p1), .val (.int (3 : Int32)), .val (.ref s6_INDETERMINATE_D), .val (.ref s7_INDETERMINATE_P), .val (.int (1 : Int32)), .unset, .unset, .unset]) rfl ?_
      show Steps p.tables e below (T39.setTop (mkF m 39 #[.val (.int p1), .val (.int (3 : Int32)), .val (.ref s6_INDETERMINATE_D), .val (.ref s7_INDETERMINATE_P), .val (.int (1 : Int32)), .unset, .unset, .unset] [])) _
      refine XS.aloadN X39.here hx rfl (hb hby at_39) rfl rfl ?_
      show Steps p.tables e below (T39.setTop (mkF m 40 #[.val (.int p1), .val (.int (3 : Int32)), .val (.ref s6_INDETERMINATE_D), .val (.ref s7_INDETERMINATE_P), .val (.int (1 : Int32)), .unset, .unset, .unset] [(.ref s7_INDETERMINATE_P)])) _
      refine st40.trans ?_
      show Steps p.tables e below (T40.setTop (mkF m 43 #[.val (.int p1), .val (.int (3 : Int32)), .val (.ref s6_INDETERMINATE_D), .val (.ref s7_INDETERMINATE_P), .val (.int (1 : Int32)), .unset, .unset, .unset] [(.ref s8_INDETERMINATE)])) _
      refine XS.aloadN X40.here hx rfl (hb hby at_43) rfl rfl ?_
      show Steps p.tables e below (T40.setTop (mkF m 44 #[.val (.int p1), .val (.int (3 : Int32)), .val (.ref s6_INDETERMINATE_D), .val (.ref s7_INDETERMINATE_P), .val (.int (1 : Int32)), .unset, .unset, .unset] [(.ref s6_INDETERMINATE_D), (.ref s8_INDETERMINATE)])) _
      refine st41.trans ?_
      show Steps p.tables e below (T41.setTop (mkF m 47 #[.val (.int p1), .val (.int (3 : Int32)), .val (.ref s6_INDETERMINATE_D), .val (.ref s7_INDETERMINATE_P), .val (.int (1 : Int32)), .unset, .unset, .unset] [(.ref s8_INDETERMINATE), (.ref s8_INDETERMINATE)])) _
      refine st42 _ ?_
      show Steps p.tables e below (T42.setTop (mkF m 50 #[.val (.int p1), .val (.int (3 : Int32)), .val (.ref s6_INDETERMINATE_D), .val (.ref s7_INDETERMINATE_P), .val (.int (1 : Int32)), .unset, .unset, .unset] [(.ref s8_INDETERMINATE), (.ref s8_INDETERMINATE)])) _
      refine XT.acmpNo X42.here hx rfl (hb hby at_50) rfl rfl rfl (own_aT rfl).2 ?_
      show Steps p.tables e below (T42.setTop (mkF m 53 #[.val (.int p1), .val (.int (3 : Int32)), .val (.ref s6_INDETERMINATE_D), .val (.ref s7_INDETERMINATE_P), .val (.int (1 : Int32)), .unset, .unset, .unset] [])) _
      refine XS.iconst X42.here hx rfl (hb hby at_53) ?_
      show Steps p.tables e below (T42.setTop (mkF m 54 #[.val (.int p1), .val (.int (3 : Int32)), .val (.ref s6_INDETERMINATE_D), .val (.ref s7_INDETERMINATE_P), .val (.int (1 : Int32)), .unset, .unset, .unset] [(.int (1 : Int32))])) _
      refine XS.goto X42.here hx rfl (pc0 := 54) (pc' := 58) rfl (hb hby at_54) (by decide) (by decide) ?_
      show Steps p.tables e below (T42.setTop (mkF m 58 #[.val (.int p1), .val (.int (3 : Int32)), .val (.ref s6_INDETERMINATE_D), .val (.ref s7_INDETERMINATE_P), .val (.int (1 : Int32)), .unset, .unset, .unset] [(.int (1 : Int32))])) _
      refine XS.istore X42.here hx rfl (hb hby at_58) rfl (l' := #[.val (.int p1), .val (.int (3 : Int32)), .val (.ref s6_INDETERMINATE_D), .val (.ref s7_INDETERMINATE_P), .val (.int (1 : Int32)), .val (.int (1 : Int32)), .unset, .unset]) rfl ?_
      show Steps p.tables e below (T42.setTop (mkF m 60 #[.val (.int p1), .val (.int (3 : Int32)), .val (.ref s6_INDETERMINATE_D), .val (.ref s7_INDETERMINATE_P), .val (.int (1 : Int32)), .val (.int (1 : Int32)), .unset, .unset] [])) _
      refine XS.aloadN X42.here hx rfl (hb hby at_60) rfl rfl ?_
      show Steps p.tables e below (T42.setTop (mkF m 61 #[.val (.int p1), .val (.int (3 : Int32)), .val (.ref s6_INDETERMINATE_D), .val (.ref s7_INDETERMINATE_P), .val (.int (1 : Int32)), .val (.int (1 : Int32)), .unset, .unset] [(.ref s6_INDETERMINATE_D)])) _
      refine st43 _ ?_
      show Steps p.tables e below (T43.setTop (mkF m 64 #[.val (.int p1), .val (.int (3 : Int32)), .val (.ref s6_INDETERMINATE_D), .val (.ref s7_INDETERMINATE_P), .val (.int (1 : Int32)), .val (.int (1 : Int32)), .unset, .unset] [(.ref s4_NOT_APPLICABLE), (.ref s6_INDETERMINATE_D)])) _
      refine XT.acmpNo X43.here hx rfl (hb hby at_64) rfl rfl rfl (own_aF (Ne.symm NE_s4_NOT_APPLICABLE_s6_INDETERMINATE_D)).1 ?_
      show Steps p.tables e below (T43.setTop (mkF m 67 #[.val (.int p1), .val (.int (3 : Int32)), .val (.ref s6_INDETERMINATE_D), .val (.ref s7_INDETERMINATE_P), .val (.int (1 : Int32)), .val (.int (1 : Int32)), .unset, .unset] [])) _
      refine XS.aloadN X43.here hx rfl (hb hby at_67) rfl rfl ?_
      show Steps p.tables e below (T43.setTop (mkF m 68 #[.val (.int p1), .val (.int (3 : Int32)), .val (.ref s6_INDETERMINATE_D), .val (.ref s7_INDETERMINATE_P), .val (.int (1 : Int32)), .val (.int (1 : Int32)), .unset, .unset] [(.ref s6_INDETERMINATE_D)])) _
      refine st44 _ ?_
      show Steps p.tables e below (T44.setTop (mkF m 71 #[.val (.int p1), .val (.int (3 : Int32)), .val (.ref s6_INDETERMINATE_D), .val (.ref s7_INDETERMINATE_P), .val (.int (1 : Int32)), .val (.int (1 : Int32)), .unset, .unset] [(.ref s5_INDETERMINATE_DP), (.ref s6_INDETERMINATE_D)])) _
      refine XT.acmpYes X44.here hx rfl (pc0 := 71) (pc' := 78) rfl (hb hby at_71) rfl rfl rfl (own_aF (Ne.symm NE_s5_INDETERMINATE_DP_s6_INDETERMINATE_D)).2 (by decide) (by decide) ?_
      show Steps p.tables e below (T44.setTop (mkF m 78 #[.val (.int p1), .val (.int (3 : Int32)), .val (.ref s6_INDETERMINATE_D), .val (.ref s7_INDETERMINATE_P), .val (.int (1 : Int32)), .val (.int (1 : Int32)), .unset, .unset] [])) _
      refine XS.iconst X44.here hx rfl (hb hby at_78) ?_
      show Steps p.tables e below (T44.setTop (mkF m 79 #[.val (.int p1), .val (.int (3 : Int32)), .val (.ref s6_INDETERMINATE_D), .val (.ref s7_INDETERMINATE_P), .val (.int (1 : Int32)), .val (.int (1 : Int32)), .unset, .unset] [(.int (0 : Int32))])) _
      refine XS.istore X44.here hx rfl (hb hby at_79) rfl (l' := #[.val (.int p1), .val (.int (3 : Int32)), .val (.ref s6_INDETERMINATE_D), .val (.ref s7_INDETERMINATE_P), .val (.int (1 : Int32)), .val (.int (1 : Int32)), .val (.int (0 : Int32)), .unset]) rfl ?_
      show Steps p.tables e below (T44.setTop (mkF m 81 #[.val (.int p1), .val (.int (3 : Int32)), .val (.ref s6_INDETERMINATE_D), .val (.ref s7_INDETERMINATE_P), .val (.int (1 : Int32)), .val (.int (1 : Int32)), .val (.int (0 : Int32)), .unset] [])) _
      refine XS.aloadN X44.here hx rfl (hb hby at_81) rfl rfl ?_
      show Steps p.tables e below (T44.setTop (mkF m 82 #[.val (.int p1), .val (.int (3 : Int32)), .val (.ref s6_INDETERMINATE_D), .val (.ref s7_INDETERMINATE_P), .val (.int (1 : Int32)), .val (.int (1 : Int32)), .val (.int (0 : Int32)), .unset] [(.ref s7_INDETERMINATE_P)])) _
      refine XS.aloadN X44.here hx rfl (hb hby at_82) rfl rfl ?_
      show Steps p.tables e below (T44.setTop (mkF m 83 #[.val (.int p1), .val (.int (3 : Int32)), .val (.ref s6_INDETERMINATE_D), .val (.ref s7_INDETERMINATE_P), .val (.int (1 : Int32)), .val (.int (1 : Int32)), .val (.int (0 : Int32)), .unset] [(.ref s6_INDETERMINATE_D), (.ref s7_INDETERMINATE_P)])) _
      refine XT.acmpYes X44.here hx rfl (pc0 := 83) (pc' := 90) rfl (hb hby at_83) rfl rfl rfl (own_aF (Ne.symm NE_s6_INDETERMINATE_D_s7_INDETERMINATE_P)).2 (by decide) (by decide) ?_
      show Steps p.tables e below (T44.setTop (mkF m 90 #[.val (.int p1), .val (.int (3 : Int32)), .val (.ref s6_INDETERMINATE_D), .val (.ref s7_INDETERMINATE_P), .val (.int (1 : Int32)), .val (.int (1 : Int32)), .val (.int (0 : Int32)), .unset] [])) _
      refine XS.iconst X44.here hx rfl (hb hby at_90) ?_
      show Steps p.tables e below (T44.setTop (mkF m 91 #[.val (.int p1), .val (.int (3 : Int32)), .val (.ref s6_INDETERMINATE_D), .val (.ref s7_INDETERMINATE_P), .val (.int (1 : Int32)), .val (.int (1 : Int32)), .val (.int (0 : Int32)), .unset] [(.int (0 : Int32))])) _
      refine XS.iload X44.here hx rfl (hb hby at_91) rfl ?_
      show Steps p.tables e below (T44.setTop (mkF m 93 #[.val (.int p1), .val (.int (3 : Int32)), .val (.ref s6_INDETERMINATE_D), .val (.ref s7_INDETERMINATE_P), .val (.int (1 : Int32)), .val (.int (1 : Int32)), .val (.int (0 : Int32)), .unset] [(.int (0 : Int32)), (.int (0 : Int32))])) _
      refine XS.icmpNo X44.here hx rfl (hb hby at_93) rfl (teq h45).2 ?_
      show Steps p.tables e below (T44.setTop (mkF m 96 #[.val (.int p1), .val (.int (3 : Int32)), .val (.ref s6_INDETERMINATE_D), .val (.ref s7_INDETERMINATE_P), .val (.int (1 : Int32)), .val (.int (1 : Int32)), .val (.int (0 : Int32)), .unset] [])) _
      refine XS.iconst X44.here hx rfl (hb hby at_96) ?_
      show Steps p.tables e below (T44.setTop (mkF m 97 #[.val (.int p1), .val (.int (3 : Int32)), .val (.ref s6_INDETERMINATE_D), .val (.ref s7_INDETERMINATE_P), .val (.int (1 : Int32)), .val (.int (1 : Int32)), .val (.int (0 : Int32)), .unset] [(.int (1 : Int32))])) _
      refine XS.goto X44.here hx rfl (pc0 := 97) (pc' := 101) rfl (hb hby at_97) (by decide) (by decide) ?_
      show Steps p.tables e below (T44.setTop (mkF m 101 #[.val (.int p1), .val (.int (3 : Int32)), .val (.ref s6_INDETERMINATE_D), .val (.ref s7_INDETERMINATE_P), .val (.int (1 : Int32)), .val (.int (1 : Int32)), .val (.int (0 : Int32)), .unset] [(.int (1 : Int32))])) _
      refine XS.istore X44.here hx rfl (hb hby at_101) rfl (l' := #[.val (.int p1), .val (.int (3 : Int32)), .val (.ref s6_INDETERMINATE_D), .val (.ref s7_INDETERMINATE_P), .val (.int (1 : Int32)), .val (.int (1 : Int32)), .val (.int (0 : Int32)), .val (.int (1 : Int32))]) rfl ?_
      show Steps p.tables e below (T44.setTop (mkF m 103 #[.val (.int p1), .val (.int (3 : Int32)), .val (.ref s6_INDETERMINATE_D), .val (.ref s7_INDETERMINATE_P), .val (.int (1 : Int32)), .val (.int (1 : Int32)), .val (.int (0 : Int32)), .val (.int (1 : Int32))] [])) _
      refine XS.iload X44.here hx rfl (hb hby at_103) rfl ?_
      show Steps p.tables e below (T44.setTop (mkF m 105 #[.val (.int p1), .val (.int (3 : Int32)), .val (.ref s6_INDETERMINATE_D), .val (.ref s7_INDETERMINATE_P), .val (.int (1 : Int32)), .val (.int (1 : Int32)), .val (.int (0 : Int32)), .val (.int (1 : Int32))] [(.int (1 : Int32))])) _
      refine XS.ifNo X44.here hx rfl (hb hby at_105) rfl ((if0 _ _).trans (feq h46).1) ?_
      show Steps p.tables e below (T44.setTop (mkF m 108 #[.val (.int p1), .val (.int (3 : Int32)), .val (.ref s6_INDETERMINATE_D), .val (.ref s7_INDETERMINATE_P), .val (.int (1 : Int32)), .val (.int (1 : Int32)), .val (.int (0 : Int32)), .val (.int (1 : Int32))] [])) _
      refine XS.iload X44.here hx rfl (hb hby at_108) rfl ?_
      show Steps p.tables e below (T44.setTop (mkF m 110 #[.val (.int p1), .val (.int (3 : Int32)), .val (.ref s6_INDETERMINATE_D), .val (.ref s7_INDETERMINATE_P), .val (.int (1 : Int32)), .val (.int (1 : Int32)), .val (.int (0 : Int32)), .val (.int (1 : Int32))] [(.int (1 : Int32))])) _
      refine XS.ifNo X44.here hx rfl (hb hby at_110) rfl ((if0 _ _).trans (feq h47).1) ?_
      show Steps p.tables e below (T44.setTop (mkF m 113 #[.val (.int p1), .val (.int (3 : Int32)), .val (.ref s6_INDETERMINATE_D), .val (.ref s7_INDETERMINATE_P), .val (.int (1 : Int32)), .val (.int (1 : Int32)), .val (.int (0 : Int32)), .val (.int (1 : Int32))] [])) _
      refine XS.iload X44.here hx rfl (hb hby at_113) rfl ?_
      show Steps p.tables e below (T44.setTop (mkF m 115 #[.val (.int p1), .val (.int (3 : Int32)), .val (.ref s6_INDETERMINATE_D), .val (.ref s7_INDETERMINATE_P), .val (.int (1 : Int32)), .val (.int (1 : Int32)), .val (.int (0 : Int32)), .val (.int (1 : Int32))] [(.int (1 : Int32))])) _
      refine XS.ifNo X44.here hx rfl (hb hby at_115) rfl ((if0 _ _).trans (feq h48).1) ?_
      show Steps p.tables e below (T44.setTop (mkF m 118 #[.val (.int p1), .val (.int (3 : Int32)), .val (.ref s6_INDETERMINATE_D), .val (.ref s7_INDETERMINATE_P), .val (.int (1 : Int32)), .val (.int (1 : Int32)), .val (.int (0 : Int32)), .val (.int (1 : Int32))] [])) _
      refine XS.iconst X44.here hx rfl (hb hby at_118) ?_
      show Steps p.tables e below (T44.setTop (mkF m 119 #[.val (.int p1), .val (.int (3 : Int32)), .val (.ref s6_INDETERMINATE_D), .val (.ref s7_INDETERMINATE_P), .val (.int (1 : Int32)), .val (.int (1 : Int32)), .val (.int (0 : Int32)), .val (.int (1 : Int32))] [(.int (1 : Int32))])) _
      refine XS.goto X44.here hx rfl (pc0 := 119) (pc' := 123) rfl (hb hby at_119) (by decide) (by decide) ?_
      show Steps p.tables e below (T44.setTop (mkF m 123 #[.val (.int p1), .val (.int (3 : Int32)), .val (.ref s6_INDETERMINATE_D), .val (.ref s7_INDETERMINATE_P), .val (.int (1 : Int32)), .val (.int (1 : Int32)), .val (.int (0 : Int32)), .val (.int (1 : Int32))] [(.int (1 : Int32))])) _
      exact retN X44 hx (t := .boolean) Bd.returns (by simp) (hb hby at_123) hr
    · show Q0 Z p1 s0_PERMIT s1_DENY s2_DENY s3_PERMIT s4_NOT_APPLICABLE s5_INDETERMINATE_DP s6_INDETERMINATE_D s7_INDETERMINATE_P s8_INDETERMINATE s9_NOT_APPLICABLE h0 n0 _ T44.heap _
      rw [e44]
      exact ⟨rfl, N42⟩
  · rw [hk1]
    obtain ⟨_, _, ⟨T49, L49, k49, n49⟩, -, X49, ⟨Lc49, hQ49, l49, y49, z49⟩, st49⟩ := Jvm.LawKit.callS X0 hx (y := (⟨"com/example/verdikt/verdikt/model/ExtendedDecisionMirrorPinLaw", "pick", "(I)Lcom/example/verdikt/verdikt/model/ExtendedDecision;"⟩ : MethodName)) hown (mvT hZ (hw _ (List.mem_of_getElem? (i := 1) rfl))) (mvT hZ (hw _ (List.mem_of_getElem? (i := 2) rfl))) (mvT hZ (hw _ (List.mem_of_getElem? (i := 3) rfl))) (mvT hZ (hw _ (List.mem_of_getElem? (i := 4) rfl))) (by decide) (backOf (W := 0) (rm1 l Z a0 hw [] (4 : Int32) s0_PERMIT s1_DENY s4_NOT_APPLICABLE s5_INDETERMINATE_DP s6_INDETERMINATE_D s7_INDETERMINATE_P h0 n0 Z0 S_ExtendedDecision_PERMIT S_ExtendedDecision_DENY S_ExtendedDecision_NOT_APPLICABLE S_ExtendedDecision_INDETERMINATE_DP S_ExtendedDecision_INDETERMINATE_D S_ExtendedDecision_INDETERMINATE_P) hZ (hw _ (List.mem_of_getElem? (i := 4) rfl)) (hw _ (List.mem_of_getElem? (i := 3) rfl)) (by decide) (by decide)) (g := (mkF m 9 #[.val (.int p1), .val (.int (4 : Int32)), .unset, .unset, .unset, .unset, .unset, .unset] [(.int (4 : Int32))])) rfl (by rw [hml]; rfl) (argsL := [(.int (4 : Int32))]) (rest := []) (lenOf pd_1 rfl) rfl (by show 2 * 0 + _ ≤ _; exact Nat.le_of_eq rfl) (hb hby at_9) (fun _ _ => ⟨rfl, e0, (by decide : 0 + 0 ≤ _), (by decide : 0 + 0 ≤ _)⟩)
    dsimp only [Pt.U, Pt.locs, Pt.cells, Pt.slots] at X49 l49 y49 z49 st49 hQ49
    subst l49 y49 z49
    obtain ⟨hv49, N49q, e49⟩ := hQ49
    rw [show f1 (4 : Int32) s0_PERMIT s1_DENY s4_NOT_APPLICABLE s5_INDETERMINATE_DP s6_INDETERMINATE_D s7_INDETERMINATE_P = s7_INDETERMINATE_P from (if_neg (by decide)).trans ((if_neg (by decide)).trans ((if_neg (by decide)).trans ((if_neg (by decide)).trans (if_pos (by decide)))))] at hv49
    subst hv49
    have N49 := Fr.app N0 N49q
    obtain ⟨cq50, kq50, q50a, q50b, q50c⟩ := isOf hZ e49 E_s7_INDETERMINATE_P
    obtain ⟨_, _, ⟨T50, L50, k50, n50⟩, -, X50, ⟨Lc50, hQ50, l50, y50, z50⟩, st50⟩ := X49.virtualBack hx (y := (⟨"com/example/verdikt/verdikt/model/ExtendedDecision", "mirror", "()Lcom/example/verdikt/verdikt/model/ExtendedDecision;"⟩ : MethodName)) (z := (⟨"com/example/verdikt/verdikt/model/ExtendedDecision", "mirror", "()Lcom/example/verdikt/verdikt/model/ExtendedDecision;"⟩ : MethodName)) hown (mvT hZ (hw _ (List.mem_of_getElem? (i := 8) rfl))) (mvT hZ (hw _ (List.mem_of_getElem? (i := 9) rfl))) (notFace_of_selects (args := #[]) (mvT hZ (hw _ (List.mem_of_getElem? (i := 11) rfl)))) (mvT hZ (hw _ (List.mem_of_getElem? (i := 11) rfl))) (mvT hZ (hw _ (List.mem_of_getElem? (i := 10) rfl))) (by decide) (backOf (W := 0) (rmm4 l Z a0 hw [] s7_INDETERMINATE_P s0_PERMIT s1_DENY s4_NOT_APPLICABLE s5_INDETERMINATE_DP s6_INDETERMINATE_D s7_INDETERMINATE_P h0 n0 Z0 E_s7_INDETERMINATE_P F_s7_INDETERMINATE_P_ordinal S_ExtendedDecision_PERMIT S_ExtendedDecision_DENY S_ExtendedDecision_NOT_APPLICABLE S_ExtendedDecision_INDETERMINATE_DP S_ExtendedDecision_INDETERMINATE_D S_ExtendedDecision_INDETERMINATE_P) hZ (hw _ (List.mem_of_getElem? (i := 12) rfl)) (hw _ (List.mem_of_getElem? (i := 6) rfl)) (by decide) (by decide)) q50a q50c (g := (mkF m 14 #[.val (.int p1), .val (.int (4 : Int32)), .val (.ref s7_INDETERMINATE_P), .unset, .unset, .unset, .unset, .unset] [(.ref s7_INDETERMINATE_P)])) rfl (by rw [hml]; rfl) (Steps.refl _) (argsL := []) (rest := []) (lenOf pd_2 rfl) rfl (by show 2 * 0 + _ ≤ _; exact Nat.le_of_eq rfl) (hb hby at_14) (fun _ _ => ⟨rfl, e49, (by decide : 0 + 0 ≤ _), (by decide : 0 + 0 ≤ _)⟩)
    dsimp only [Pt.U, Pt.locs, Pt.cells, Pt.slots] at X50 l50 y50 z50 st50 hQ50
    subst l50 y50 z50
    obtain ⟨hv50, N50q, e50⟩ := hQ50
    rw [show fm4 s7_INDETERMINATE_P s0_PERMIT s1_DENY s4_NOT_APPLICABLE s5_INDETERMINATE_DP s6_INDETERMINATE_D s7_INDETERMINATE_P = s6_INDETERMINATE_D from rfl] at hv50
    subst hv50
    have N50 := Fr.app N49 N50q
    obtain ⟨cq51, kq51, q51a, q51b, q51c⟩ := isOf hZ e50 E_s6_INDETERMINATE_D
    obtain ⟨_, _, ⟨T51, L51, k51, n51⟩, -, X51, ⟨Lc51, hQ51, l51, y51, z51⟩, st51⟩ := X50.virtualBack hx (y := (⟨"com/example/verdikt/verdikt/model/ExtendedDecision", "mirror", "()Lcom/example/verdikt/verdikt/model/ExtendedDecision;"⟩ : MethodName)) (z := (⟨"com/example/verdikt/verdikt/model/ExtendedDecision", "mirror", "()Lcom/example/verdikt/verdikt/model/ExtendedDecision;"⟩ : MethodName)) hown (mvT hZ (hw _ (List.mem_of_getElem? (i := 8) rfl))) (mvT hZ (hw _ (List.mem_of_getElem? (i := 9) rfl))) (notFace_of_selects (args := #[]) (mvT hZ (hw _ (List.mem_of_getElem? (i := 11) rfl)))) (mvT hZ (hw _ (List.mem_of_getElem? (i := 11) rfl))) (mvT hZ (hw _ (List.mem_of_getElem? (i := 10) rfl))) (by decide) (backOf (W := 0) (rmm3 l Z a0 hw [] s6_INDETERMINATE_D s0_PERMIT s1_DENY s4_NOT_APPLICABLE s5_INDETERMINATE_DP s6_INDETERMINATE_D s7_INDETERMINATE_P h0 n0 Z0 E_s6_INDETERMINATE_D F_s6_INDETERMINATE_D_ordinal S_ExtendedDecision_PERMIT S_ExtendedDecision_DENY S_ExtendedDecision_NOT_APPLICABLE S_ExtendedDecision_INDETERMINATE_DP S_ExtendedDecision_INDETERMINATE_D S_ExtendedDecision_INDETERMINATE_P) hZ (hw _ (List.mem_of_getElem? (i := 12) rfl)) (hw _ (List.mem_of_getElem? (i := 6) rfl)) (by decide) (by decide)) q51a q51c (g := (mkF m 25 #[.val (.int p1), .val (.int (4 : Int32)), .val (.ref s7_INDETERMINATE_P), .val (.ref s6_INDETERMINATE_D), .unset, .unset, .unset, .unset] [(.ref s6_INDETERMINATE_D)])) rfl (by rw [hml]; rfl) (Steps.refl _) (argsL := []) (rest := []) (lenOf pd_2 rfl) rfl (by show 2 * 0 + _ ≤ _; exact Nat.le_of_eq rfl) (hb hby at_25) (fun _ _ => ⟨rfl, e50, (by decide : 0 + 0 ≤ _), (by decide : 0 + 0 ≤ _)⟩)
    dsimp only [Pt.U, Pt.locs, Pt.cells, Pt.slots] at X51 l51 y51 z51 st51 hQ51
    subst l51 y51 z51
    obtain ⟨hv51, N51q, e51⟩ := hQ51
    rw [show fm3 s6_INDETERMINATE_D s0_PERMIT s1_DENY s4_NOT_APPLICABLE s5_INDETERMINATE_DP s6_INDETERMINATE_D s7_INDETERMINATE_P = s7_INDETERMINATE_P from rfl] at hv51
    subst hv51
    have N51 := Fr.app N50 N51q
    obtain ⟨cq52, kq52, q52a, q52b, q52c⟩ := isOf hZ e51 E_s6_INDETERMINATE_D
    obtain ⟨_, _, ⟨T52, L52, k52, n52⟩, -, X52, ⟨Lc52, hQ52, l52, y52, z52⟩, st52⟩ := X51.virtualBack hx (y := (⟨"com/example/verdikt/verdikt/model/ExtendedDecision", "decision", "()Lcom/example/verdikt/verdikt/model/Decision;"⟩ : MethodName)) (z := (⟨"com/example/verdikt/verdikt/model/ExtendedDecision", "decision", "()Lcom/example/verdikt/verdikt/model/Decision;"⟩ : MethodName)) hown (mvT hZ (hw _ (List.mem_of_getElem? (i := 25) rfl))) (mvT hZ (hw _ (List.mem_of_getElem? (i := 26) rfl))) (notFace_of_selects (args := #[]) (mvT hZ (hw _ (List.mem_of_getElem? (i := 28) rfl)))) (mvT hZ (hw _ (List.mem_of_getElem? (i := 28) rfl))) (mvT hZ (hw _ (List.mem_of_getElem? (i := 27) rfl))) (by decide) (backOf (W := 0) (rm4 l Z a0 hw [] s6_INDETERMINATE_D s8_INDETERMINATE h0 n0 Z0 F_s6_INDETERMINATE_D_decision) hZ (hw _ (List.mem_of_getElem? (i := 29) rfl)) (hw _ (List.mem_of_getElem? (i := 6) rfl)) (by decide) (by decide)) q52a q52c (g := (mkF m 40 #[.val (.int p1), .val (.int (4 : Int32)), .val (.ref s7_INDETERMINATE_P), .val (.ref s6_INDETERMINATE_D), .val (.int (1 : Int32)), .unset, .unset, .unset] [(.ref s6_INDETERMINATE_D)])) rfl (by rw [hml]; rfl) (Steps.refl _) (argsL := []) (rest := []) (lenOf pd_3 rfl) rfl (by show 2 * 0 + _ ≤ _; exact Nat.le_of_eq rfl) (hb hby at_40) (fun _ _ => ⟨rfl, e51, (by decide : 0 + 0 ≤ _), (by decide : 0 + 0 ≤ _)⟩)
    dsimp only [Pt.U, Pt.locs, Pt.cells, Pt.slots] at X52 l52 y52 z52 st52 hQ52
    subst l52 y52 z52
    obtain ⟨hv52, N52q, e52⟩ := hQ52
    rw [show f4 s6_INDETERMINATE_D s8_INDETERMINATE = s8_INDETERMINATE from rfl] at hv52
    subst hv52
    have N52 := Fr.app N51 N52q
    obtain ⟨cq53, kq53, q53a, q53b, q53c⟩ := isOf hZ e52 E_s7_INDETERMINATE_P
    obtain ⟨_, _, ⟨T53, L53, k53, n53⟩, -, X53, ⟨Lc53, hQ53, l53, y53, z53⟩, st53⟩ := X52.virtualBack hx (y := (⟨"com/example/verdikt/verdikt/model/ExtendedDecision", "decision", "()Lcom/example/verdikt/verdikt/model/Decision;"⟩ : MethodName)) (z := (⟨"com/example/verdikt/verdikt/model/ExtendedDecision", "decision", "()Lcom/example/verdikt/verdikt/model/Decision;"⟩ : MethodName)) hown (mvT hZ (hw _ (List.mem_of_getElem? (i := 25) rfl))) (mvT hZ (hw _ (List.mem_of_getElem? (i := 26) rfl))) (notFace_of_selects (args := #[]) (mvT hZ (hw _ (List.mem_of_getElem? (i := 28) rfl)))) (mvT hZ (hw _ (List.mem_of_getElem? (i := 28) rfl))) (mvT hZ (hw _ (List.mem_of_getElem? (i := 27) rfl))) (by decide) (backOf (W := 1) (rm4 l Z a0 hw [] s7_INDETERMINATE_P s8_INDETERMINATE h0 n0 Z0 F_s7_INDETERMINATE_P_decision) hZ (hw _ (List.mem_of_getElem? (i := 29) rfl)) (hw _ (List.mem_of_getElem? (i := 6) rfl)) (by decide) (by decide)) q53a q53c (g := (mkF m 44 #[.val (.int p1), .val (.int (4 : Int32)), .val (.ref s7_INDETERMINATE_P), .val (.ref s6_INDETERMINATE_D), .val (.int (1 : Int32)), .unset, .unset, .unset] [(.ref s7_INDETERMINATE_P), (.ref s8_INDETERMINATE)])) rfl (by rw [hml]; rfl) (Steps.refl _) (argsL := []) (rest := [(.ref s8_INDETERMINATE)]) (lenOf pd_3 rfl) rfl (by show 2 * 0 + _ ≤ _; exact Nat.le_of_eq rfl) (hb hby at_44) (fun _ _ => ⟨rfl, e52, (by decide : 0 + 0 ≤ _), (by decide : 0 + 0 ≤ _)⟩)
    dsimp only [Pt.U, Pt.locs, Pt.cells, Pt.slots] at X53 l53 y53 z53 st53 hQ53
    subst l53 y53 z53
    obtain ⟨hv53, N53q, e53⟩ := hQ53
    rw [show f4 s7_INDETERMINATE_P s8_INDETERMINATE = s8_INDETERMINATE from rfl] at hv53
    subst hv53
    have N53 := Fr.app N52 N53q
    obtain ⟨_, _, ⟨T54, L54, k54, n54⟩, -, X54, ⟨Lc54, hQ54, l54, y54, z54⟩, st54⟩ := Jvm.LawKit.callS X53 hx (y := (⟨"com/example/verdikt/verdikt/model/ExtendedDecisionMirrorPinLaw", "swap", "(Lcom/example/verdikt/verdikt/model/Decision;)Lcom/example/verdikt/verdikt/model/Decision;"⟩ : MethodName)) hown (mvT hZ (hw _ (List.mem_of_getElem? (i := 35) rfl))) (mvT hZ (hw _ (List.mem_of_getElem? (i := 36) rfl))) (mvT hZ (hw _ (List.mem_of_getElem? (i := 3) rfl))) (mvT hZ (hw _ (List.mem_of_getElem? (i := 37) rfl))) (by decide) (backOf (W := 1) (rm5 l Z a0 hw [] s8_INDETERMINATE s2_DENY s3_PERMIT s8_INDETERMINATE s9_NOT_APPLICABLE h0 n0 Z0 S_Decision_DENY S_Decision_PERMIT S_Decision_INDETERMINATE S_Decision_NOT_APPLICABLE) hZ (hw _ (List.mem_of_getElem? (i := 37) rfl)) (hw _ (List.mem_of_getElem? (i := 3) rfl)) (by decide) (by decide)) (g := (mkF m 47 #[.val (.int p1), .val (.int (4 : Int32)), .val (.ref s7_INDETERMINATE_P), .val (.ref s6_INDETERMINATE_D), .val (.int (1 : Int32)), .unset, .unset, .unset] [(.ref s8_INDETERMINATE), (.ref s8_INDETERMINATE)])) rfl (by rw [hml]; rfl) (argsL := [(.ref s8_INDETERMINATE)]) (rest := [(.ref s8_INDETERMINATE)]) (lenOf pd_4 rfl) rfl (by show 2 * 0 + _ ≤ _; exact Nat.le_of_eq rfl) (hb hby at_47) (fun _ _ => ⟨rfl, e53, (by decide : 0 + 0 ≤ _), (by decide : 0 + 0 ≤ _)⟩)
    dsimp only [Pt.U, Pt.locs, Pt.cells, Pt.slots] at X54 l54 y54 z54 st54 hQ54
    subst l54 y54 z54
    obtain ⟨hv54, N54q, e54⟩ := hQ54
    rw [show f5 s8_INDETERMINATE s2_DENY s3_PERMIT s8_INDETERMINATE s9_NOT_APPLICABLE = s8_INDETERMINATE from (if_neg NE_s8_INDETERMINATE_s3_PERMIT).trans (if_neg NE_s8_INDETERMINATE_s2_DENY)] at hv54
    subst hv54
    have N54 := Fr.app N53 N54q
    obtain ⟨T55, X55, e55, st55⟩ := getS X54 hx hZ (host := "") hown (hw _ (List.mem_of_getElem? (i := 40) rfl)) Via.refl e54 S_ExtendedDecision_NOT_APPLICABLE (g := (mkF m 61 #[.val (.int p1), .val (.int (4 : Int32)), .val (.ref s7_INDETERMINATE_P), .val (.ref s6_INDETERMINATE_D), .val (.int (1 : Int32)), .val (.int (1 : Int32)), .unset, .unset] [(.ref s7_INDETERMINATE_P)])) rfl (hb hby at_61)
    obtain ⟨T56, X56, e56, st56⟩ := getS X55 hx hZ (host := "") hown (hw _ (List.mem_of_getElem? (i := 42) rfl)) Via.refl e55 S_ExtendedDecision_INDETERMINATE_DP (g := (mkF m 68 #[.val (.int p1), .val (.int (4 : Int32)), .val (.ref s7_INDETERMINATE_P), .val (.ref s6_INDETERMINATE_D), .val (.int (1 : Int32)), .val (.int (1 : Int32)), .unset, .unset] [(.ref s7_INDETERMINATE_P)])) rfl (hb hby at_68)
    have h57 : (0 : Int32) = (0 : Int32) := by decide
    have h58 : ¬ ((1 : Int32) = (0 : Int32)) := by decide
    have h59 : ¬ ((1 : Int32) = (0 : Int32)) := by decide
    have h60 : ¬ ((1 : Int32) = (0 : Int32)) := by decide
    obtain ⟨fs, hr, hrun, hended, hW, hsame⟩ := X56.leave (v := some (.int (1 : Int32))) (fun h => by rw [Bd.returns] at h; cases h)
    refine ⟨_, _, ?_, hrun, hended, _, _, rfl, ?_, ⟨_, rfl⟩, hW, hsame.mono (by decide) (by decide)⟩
    · show Steps p.tables e below (s₁.setTop (mkF m 8 #[.val (.int p1), .val (.int (4 : Int32)), .unset, .unset, .unset, .unset, .unset, .unset] [])) _
      refine XS.iloadN X0.here hx rfl (hb hby at_8) rfl ?_
      show Steps p.tables e below (s₁.setTop (mkF m 9 #[.val (.int p1), .val (.int (4 : Int32)), .unset, .unset, .unset, .unset, .unset, .unset] [(.int (4 : Int32))])) _
      refine st49 _ ?_
      show Steps p.tables e below (T49.setTop (mkF m 12 #[.val (.int p1), .val (.int (4 : Int32)), .unset, .unset, .unset, .unset, .unset, .unset] [(.ref s7_INDETERMINATE_P)])) _
      refine XS.astoreN X49.here hx rfl (hb hby at_12) rfl rfl (l' := #[.val (.int p1), .val (.int (4 : Int32)), .val (.ref s7_INDETERMINATE_P), .unset, .unset, .unset, .unset, .unset]) rfl ?_
      show Steps p.tables e below (T49.setTop (mkF m 13 #[.val (.int p1), .val (.int (4 : Int32)), .val (.ref s7_INDETERMINATE_P), .unset, .unset, .unset, .unset, .unset] [])) _
      refine XS.aloadN X49.here hx rfl (hb hby at_13) rfl rfl ?_
      show Steps p.tables e below (T49.setTop (mkF m 14 #[.val (.int p1), .val (.int (4 : Int32)), .val (.ref s7_INDETERMINATE_P), .unset, .unset, .unset, .unset, .unset] [(.ref s7_INDETERMINATE_P)])) _
      refine st50.trans ?_
      show Steps p.tables e below (T50.setTop (mkF m 17 #[.val (.int p1), .val (.int (4 : Int32)), .val (.ref s7_INDETERMINATE_P), .unset, .unset, .unset, .unset, .unset] [(.ref s6_INDETERMINATE_D)])) _
      refine XS.astoreN X50.here hx rfl (hb hby at_17) rfl rfl (l' := #[.val (.int p1), .val (.int (4 : Int32)), .val (.ref s7_INDETERMINATE_P), .val (.ref s6_INDETERMINATE_D), .unset, .unset, .unset, .unset]) rfl ?_
      show Steps p.tables e below (T50.setTop (mkF m 18 #[.val (.int p1), .val (.int (4 : Int32)), .val (.ref s7_INDETERMINATE_P), .val (.ref s6_INDETERMINATE_D), .unset, .unset, .unset, .unset] [])) _
      refine XS.aloadN X50.here hx rfl (hb hby at_18) rfl rfl ?_
      show Steps p.tables e below (T50.setTop (mkF m 19 #[.val (.int p1), .val (.int (4 : Int32)), .val (.ref s7_INDETERMINATE_P), .val (.ref s6_INDETERMINATE_D), .unset, .unset, .unset, .unset] [(.ref s6_INDETERMINATE_D)])) _
      refine XT.ifnonnullYes X50.here hx rfl (pc0 := 19) (pc' := 24) rfl (hb hby at_19) rfl (by decide) (by decide) ?_
      show Steps p.tables e below (T50.setTop (mkF m 24 #[.val (.int p1), .val (.int (4 : Int32)), .val (.ref s7_INDETERMINATE_P), .val (.ref s6_INDETERMINATE_D), .unset, .unset, .unset, .unset] [])) _
      refine XS.aloadN X50.here hx rfl (hb hby at_24) rfl rfl ?_
      show Steps p.tables e below (T50.setTop (mkF m 25 #[.val (.int p1), .val (.int (4 : Int32)), .val (.ref s7_INDETERMINATE_P), .val (.ref s6_INDETERMINATE_D), .unset, .unset, .unset, .unset] [(.ref s6_INDETERMINATE_D)])) _
      refine st51.trans ?_
      show Steps p.tables e below (T51.setTop (mkF m 28 #[.val (.int p1), .val (.int (4 : Int32)), .val (.ref s7_INDETERMINATE_P), .val (.ref s6_INDETERMINATE_D), .unset, .unset, .unset, .unset] [(.ref s7_INDETERMINATE_P)])) _
      refine XS.aloadN X51.here hx rfl (hb hby at_28) rfl rfl ?_
      show Steps p.tables e below (T51.setTop (mkF m 29 #[.val (.int p1), .val (.int (4 : Int32)), .val (.ref s7_INDETERMINATE_P), .val (.ref s6_INDETERMINATE_D), .unset, .unset, .unset, .unset] [(.ref s7_INDETERMINATE_P), (.ref s7_INDETERMINATE_P)])) _
      refine XT.acmpNo X51.here hx rfl (hb hby at_29) rfl rfl rfl (own_aT rfl).2 ?_
      show Steps p.tables e below (T51.setTop (mkF m 32 #[.val (.int p1), .val (.int (4 : Int32)), .val (.ref s7_INDETERMINATE_P), .val (.ref s6_INDETERMINATE_D), .unset, .unset, .unset, .unset] [])) _
      refine XS.iconst X51.here hx rfl (hb hby at_32) ?_
      show Steps p.tables e below (T51.setTop (mkF m 33 #[.val (.int p1), .val (.int (4 : Int32)), .val (.ref s7_INDETERMINATE_P), .val (.ref s6_INDETERMINATE_D), .unset, .unset, .unset, .unset] [(.int (1 : Int32))])) _
      refine XS.goto X51.here hx rfl (pc0 := 33) (pc' := 37) rfl (hb hby at_33) (by decide) (by decide) ?_
      show Steps p.tables e below (T51.setTop (mkF m 37 #[.val (.int p1), .val (.int (4 : Int32)), .val (.ref s7_INDETERMINATE_P), .val (.ref s6_INDETERMINATE_D), .unset, .unset, .unset, .unset] [(.int (1 : Int32))])) _
      refine XS.istore X51.here hx rfl (hb hby at_37) rfl (l' := #[.val (.int p1), .val (.int (4 : Int32)), .val (.ref s7_INDETERMINATE_P), .val (.ref s6_INDETERMINATE_D), .val (.int (1 : Int32)), .unset, .unset, .unset]) rfl ?_
      show Steps p.tables e below (T51.setTop (mkF m 39 #[.val (.int p1), .val (.int (4 : Int32)), .val (.ref s7_INDETERMINATE_P), .val (.ref s6_INDETERMINATE_D), .val (.int (1 : Int32)), .unset, .unset, .unset] [])) _
      refine XS.aloadN X51.here hx rfl (hb hby at_39) rfl rfl ?_
      show Steps p.tables e below (T51.setTop (mkF m 40 #[.val (.int p1), .val (.int (4 : Int32)), .val (.ref s7_INDETERMINATE_P), .val (.ref s6_INDETERMINATE_D), .val (.int (1 : Int32)), .unset, .unset, .unset] [(.ref s6_INDETERMINATE_D)])) _
      refine st52.trans ?_
      show Steps p.tables e below (T52.setTop (mkF m 43 #[.val (.int p1), .val (.int (4 : Int32)), .val (.ref s7_INDETERMINATE_P), .val (.ref s6_INDETERMINATE_D), .val (.int (1 : Int32)), .unset, .unset, .unset] [(.ref s8_INDETERMINATE)])) _
      refine XS.aloadN X52.here hx rfl (hb hby at_43) rfl rfl ?_
      show Steps p.tables e below (T52.setTop (mkF m 44 #[.val (.int p1), .val (.int (4 : Int32)), .val (.ref s7_INDETERMINATE_P), .val (.ref s6_INDETERMINATE_D), .val (.int (1 : Int32)), .unset, .unset, .unset] [(.ref s7_INDETERMINATE_P), (.ref s8_INDETERMINATE)])) _
      refine st53.trans ?_
      show Steps p.tables e below (T53.setTop (mkF m 47 #[.val (.int p1), .val (.int (4 : Int32)), .val (.ref s7_INDETERMINATE_P), .val (.ref s6_INDETERMINATE_D), .val (.int (1 : Int32)), .unset, .unset, .unset] [(.ref s8_INDETERMINATE), (.ref s8_INDETERMINATE)])) _
      refine st54 _ ?_
      show Steps p.tables e below (T54.setTop (mkF m 50 #[.val (.int p1), .val (.int (4 : Int32)), .val (.ref s7_INDETERMINATE_P), .val (.ref s6_INDETERMINATE_D), .val (.int (1 : Int32)), .unset, .unset, .unset] [(.ref s8_INDETERMINATE), (.ref s8_INDETERMINATE)])) _
      refine XT.acmpNo X54.here hx rfl (hb hby at_50) rfl rfl rfl (own_aT rfl).2 ?_
      show Steps p.tables e below (T54.setTop (mkF m 53 #[.val (.int p1), .val (.int (4 : Int32)), .val (.ref s7_INDETERMINATE_P), .val (.ref s6_INDETERMINATE_D), .val (.int (1 : Int32)), .unset, .unset, .unset] [])) _
      refine XS.iconst X54.here hx rfl (hb hby at_53) ?_
      show Steps p.tables e below (T54.setTop (mkF m 54 #[.val (.int p1), .val (.int (4 : Int32)), .val (.ref s7_INDETERMINATE_P), .val (.ref s6_INDETERMINATE_D), .val (.int (1 : Int32)), .unset, .unset, .unset] [(.int (1 : Int32))])) _
      refine XS.goto X54.here hx rfl (pc0 := 54) (pc' := 58) rfl (hb hby at_54) (by decide) (by decide) ?_
      show Steps p.tables e below (T54.setTop (mkF m 58 #[.val (.int p1), .val (.int (4 : Int32)), .val (.ref s7_INDETERMINATE_P), .val (.ref s6_INDETERMINATE_D), .val (.int (1 : Int32)), .unset, .unset, .unset] [(.int (1 : Int32))])) _
      refine XS.istore X54.here hx rfl (hb hby at_58) rfl (l' := #[.val (.int p1), .val (.int (4 : Int32)), .val (.ref s7_INDETERMINATE_P), .val (.ref s6_INDETERMINATE_D), .val (.int (1 : Int32)), .val (.int (1 : Int32)), .unset, .unset]) rfl ?_
      show Steps p.tables e below (T54.setTop (mkF m 60 #[.val (.int p1), .val (.int (4 : Int32)), .val (.ref s7_INDETERMINATE_P), .val (.ref s6_INDETERMINATE_D), .val (.int (1 : Int32)), .val (.int (1 : Int32)), .unset, .unset] [])) _
      refine XS.aloadN X54.here hx rfl (hb hby at_60) rfl rfl ?_
      show Steps p.tables e below (T54.setTop (mkF m 61 #[.val (.int p1), .val (.int (4 : Int32)), .val (.ref s7_INDETERMINATE_P), .val (.ref s6_INDETERMINATE_D), .val (.int (1 : Int32)), .val (.int (1 : Int32)), .unset, .unset] [(.ref s7_INDETERMINATE_P)])) _
      refine st55 _ ?_
      show Steps p.tables e below (T55.setTop (mkF m 64 #[.val (.int p1), .val (.int (4 : Int32)), .val (.ref s7_INDETERMINATE_P), .val (.ref s6_INDETERMINATE_D), .val (.int (1 : Int32)), .val (.int (1 : Int32)), .unset, .unset] [(.ref s4_NOT_APPLICABLE), (.ref s7_INDETERMINATE_P)])) _
      refine XT.acmpNo X55.here hx rfl (hb hby at_64) rfl rfl rfl (own_aF (Ne.symm NE_s4_NOT_APPLICABLE_s7_INDETERMINATE_P)).1 ?_
      show Steps p.tables e below (T55.setTop (mkF m 67 #[.val (.int p1), .val (.int (4 : Int32)), .val (.ref s7_INDETERMINATE_P), .val (.ref s6_INDETERMINATE_D), .val (.int (1 : Int32)), .val (.int (1 : Int32)), .unset, .unset] [])) _
      refine XS.aloadN X55.here hx rfl (hb hby at_67) rfl rfl ?_
      show Steps p.tables e below (T55.setTop (mkF m 68 #[.val (.int p1), .val (.int (4 : Int32)), .val (.ref s7_INDETERMINATE_P), .val (.ref s6_INDETERMINATE_D), .val (.int (1 : Int32)), .val (.int (1 : Int32)), .unset, .unset] [(.ref s7_INDETERMINATE_P)])) _
      refine st56 _ ?_
      show Steps p.tables e below (T56.setTop (mkF m 71 #[.val (.int p1), .val (.int (4 : Int32)), .val (.ref s7_INDETERMINATE_P), .val (.ref s6_INDETERMINATE_D), .val (.int (1 : Int32)), .val (.int (1 : Int32)), .unset, .unset] [(.ref s5_INDETERMINATE_DP), (.ref s7_INDETERMINATE_P)])) _
      refine XT.acmpYes X56.here hx rfl (pc0 := 71) (pc' := 78) rfl (hb hby at_71) rfl rfl rfl (own_aF (Ne.symm NE_s5_INDETERMINATE_DP_s7_INDETERMINATE_P)).2 (by decide) (by decide) ?_
      show Steps p.tables e below (T56.setTop (mkF m 78 #[.val (.int p1), .val (.int (4 : Int32)), .val (.ref s7_INDETERMINATE_P), .val (.ref s6_INDETERMINATE_D), .val (.int (1 : Int32)), .val (.int (1 : Int32)), .unset, .unset] [])) _
      refine XS.iconst X56.here hx rfl (hb hby at_78) ?_
      show Steps p.tables e below (T56.setTop (mkF m 79 #[.val (.int p1), .val (.int (4 : Int32)), .val (.ref s7_INDETERMINATE_P), .val (.ref s6_INDETERMINATE_D), .val (.int (1 : Int32)), .val (.int (1 : Int32)), .unset, .unset] [(.int (0 : Int32))])) _
      refine XS.istore X56.here hx rfl (hb hby at_79) rfl (l' := #[.val (.int p1), .val (.int (4 : Int32)), .val (.ref s7_INDETERMINATE_P), .val (.ref s6_INDETERMINATE_D), .val (.int (1 : Int32)), .val (.int (1 : Int32)), .val (.int (0 : Int32)), .unset]) rfl ?_
      show Steps p.tables e below (T56.setTop (mkF m 81 #[.val (.int p1), .val (.int (4 : Int32)), .val (.ref s7_INDETERMINATE_P), .val (.ref s6_INDETERMINATE_D), .val (.int (1 : Int32)), .val (.int (1 : Int32)), .val (.int (0 : Int32)), .unset] [])) _
      refine XS.aloadN X56.here hx rfl (hb hby at_81) rfl rfl ?_
      show Steps p.tables e below (T56.setTop (mkF m 82 #[.val (.int p1), .val (.int (4 : Int32)), .val (.ref s7_INDETERMINATE_P), .val (.ref s6_INDETERMINATE_D), .val (.int (1 : Int32)), .val (.int (1 : Int32)), .val (.int (0 : Int32)), .unset] [(.ref s6_INDETERMINATE_D)])) _
      refine XS.aloadN X56.here hx rfl (hb hby at_82) rfl rfl ?_
      show Steps p.tables e below (T56.setTop (mkF m 83 #[.val (.int p1), .val (.int (4 : Int32)), .val (.ref s7_INDETERMINATE_P), .val (.ref s6_INDETERMINATE_D), .val (.int (1 : Int32)), .val (.int (1 : Int32)), .val (.int (0 : Int32)), .unset] [(.ref s7_INDETERMINATE_P), (.ref s6_INDETERMINATE_D)])) _
      refine XT.acmpYes X56.here hx rfl (pc0 := 83) (pc' := 90) rfl (hb hby at_83) rfl rfl rfl (own_aF NE_s6_INDETERMINATE_D_s7_INDETERMINATE_P).2 (by decide) (by decide) ?_
      show Steps p.tables e below (T56.setTop (mkF m 90 #[.val (.int p1), .val (.int (4 : Int32)), .val (.ref s7_INDETERMINATE_P), .val (.ref s6_INDETERMINATE_D), .val (.int (1 : Int32)), .val (.int (1 : Int32)), .val (.int (0 : Int32)), .unset] [])) _
      refine XS.iconst X56.here hx rfl (hb hby at_90) ?_
      show Steps p.tables e below (T56.setTop (mkF m 91 #[.val (.int p1), .val (.int (4 : Int32)), .val (.ref s7_INDETERMINATE_P), .val (.ref s6_INDETERMINATE_D), .val (.int (1 : Int32)), .val (.int (1 : Int32)), .val (.int (0 : Int32)), .unset] [(.int (0 : Int32))])) _
      refine XS.iload X56.here hx rfl (hb hby at_91) rfl ?_
      show Steps p.tables e below (T56.setTop (mkF m 93 #[.val (.int p1), .val (.int (4 : Int32)), .val (.ref s7_INDETERMINATE_P), .val (.ref s6_INDETERMINATE_D), .val (.int (1 : Int32)), .val (.int (1 : Int32)), .val (.int (0 : Int32)), .unset] [(.int (0 : Int32)), (.int (0 : Int32))])) _
      refine XS.icmpNo X56.here hx rfl (hb hby at_93) rfl (teq h57).2 ?_
      show Steps p.tables e below (T56.setTop (mkF m 96 #[.val (.int p1), .val (.int (4 : Int32)), .val (.ref s7_INDETERMINATE_P), .val (.ref s6_INDETERMINATE_D), .val (.int (1 : Int32)), .val (.int (1 : Int32)), .val (.int (0 : Int32)), .unset] [])) _
      refine XS.iconst X56.here hx rfl (hb hby at_96) ?_
      show Steps p.tables e below (T56.setTop (mkF m 97 #[.val (.int p1), .val (.int (4 : Int32)), .val (.ref s7_INDETERMINATE_P), .val (.ref s6_INDETERMINATE_D), .val (.int (1 : Int32)), .val (.int (1 : Int32)), .val (.int (0 : Int32)), .unset] [(.int (1 : Int32))])) _
      refine XS.goto X56.here hx rfl (pc0 := 97) (pc' := 101) rfl (hb hby at_97) (by decide) (by decide) ?_
      show Steps p.tables e below (T56.setTop (mkF m 101 #[.val (.int p1), .val (.int (4 : Int32)), .val (.ref s7_INDETERMINATE_P), .val (.ref s6_INDETERMINATE_D), .val (.int (1 : Int32)), .val (.int (1 : Int32)), .val (.int (0 : Int32)), .unset] [(.int (1 : Int32))])) _
      refine XS.istore X56.here hx rfl (hb hby at_101) rfl (l' := #[.val (.int p1), .val (.int (4 : Int32)), .val (.ref s7_INDETERMINATE_P), .val (.ref s6_INDETERMINATE_D), .val (.int (1 : Int32)), .val (.int (1 : Int32)), .val (.int (0 : Int32)), .val (.int (1 : Int32))]) rfl ?_
      show Steps p.tables e below (T56.setTop (mkF m 103 #[.val (.int p1), .val (.int (4 : Int32)), .val (.ref s7_INDETERMINATE_P), .val (.ref s6_INDETERMINATE_D), .val (.int (1 : Int32)), .val (.int (1 : Int32)), .val (.int (0 : Int32)), .val (.int (1 : Int32))] [])) _
      refine XS.iload X56.here hx rfl (hb hby at_103) rfl ?_
      show Steps p.tables e below (T56.setTop (mkF m 105 #[.val (.int p1), .val (.int (4 : Int32)), .val (.ref s7_INDETERMINATE_P), .val (.ref s6_INDETERMINATE_D), .val (.int (1 : Int32)), .val (.int (1 : Int32)), .val (.int (0 : Int32)), .val (.int (1 : Int32))] [(.int (1 : Int32))])) _
      refine XS.ifNo X56.here hx rfl (hb hby at_105) rfl ((if0 _ _).trans (feq h58).1) ?_
      show Steps p.tables e below (T56.setTop (mkF m 108 #[.val (.int p1), .val (.int (4 : Int32)), .val (.ref s7_INDETERMINATE_P), .val (.ref s6_INDETERMINATE_D), .val (.int (1 : Int32)), .val (.int (1 : Int32)), .val (.int (0 : Int32)), .val (.int (1 : Int32))] [])) _
      refine XS.iload X56.here hx rfl (hb hby at_108) rfl ?_
      show Steps p.tables e below (T56.setTop (mkF m 110 #[.val (.int p1), .val (.int (4 : Int32)), .val (.ref s7_INDETERMINATE_P), .val (.ref s6_INDETERMINATE_D), .val (.int (1 : Int32)), .val (.int (1 : Int32)), .val (.int (0 : Int32)), .val (.int (1 : Int32))] [(.int (1 : Int32))])) _
      refine XS.ifNo X56.here hx rfl (hb hby at_110) rfl ((if0 _ _).trans (feq h59).1) ?_
      show Steps p.tables e below (T56.setTop (mkF m 113 #[.val (.int p1), .val (.int (4 : Int32)), .val (.ref s7_INDETERMINATE_P), .val (.ref s6_INDETERMINATE_D), .val (.int (1 : Int32)), .val (.int (1 : Int32)), .val (.int (0 : Int32)), .val (.int (1 : Int32))] [])) _
      refine XS.iload X56.here hx rfl (hb hby at_113) rfl ?_
      show Steps p.tables e below (T56.setTop (mkF m 115 #[.val (.int p1), .val (.int (4 : Int32)), .val (.ref s7_INDETERMINATE_P), .val (.ref s6_INDETERMINATE_D), .val (.int (1 : Int32)), .val (.int (1 : Int32)), .val (.int (0 : Int32)), .val (.int (1 : Int32))] [(.int (1 : Int32))])) _
      refine XS.ifNo X56.here hx rfl (hb hby at_115) rfl ((if0 _ _).trans (feq h60).1) ?_
      show Steps p.tables e below (T56.setTop (mkF m 118 #[.val (.int p1), .val (.int (4 : Int32)), .val (.ref s7_INDETERMINATE_P), .val (.ref s6_INDETERMINATE_D), .val (.int (1 : Int32)), .val (.int (1 : Int32)), .val (.int (0 : Int32)), .val (.int (1 : Int32))] [])) _
      refine XS.iconst X56.here hx rfl (hb hby at_118) ?_
      show Steps p.tables e below (T56.setTop (mkF m 119 #[.val (.int p1), .val (.int (4 : Int32)), .val (.ref s7_INDETERMINATE_P), .val (.ref s6_INDETERMINATE_D), .val (.int (1 : Int32)), .val (.int (1 : Int32)), .val (.int (0 : Int32)), .val (.int (1 : Int32))] [(.int (1 : Int32))])) _
      refine XS.goto X56.here hx rfl (pc0 := 119) (pc' := 123) rfl (hb hby at_119) (by decide) (by decide) ?_
      show Steps p.tables e below (T56.setTop (mkF m 123 #[.val (.int p1), .val (.int (4 : Int32)), .val (.ref s7_INDETERMINATE_P), .val (.ref s6_INDETERMINATE_D), .val (.int (1 : Int32)), .val (.int (1 : Int32)), .val (.int (0 : Int32)), .val (.int (1 : Int32))] [(.int (1 : Int32))])) _
      exact retN X56 hx (t := .boolean) Bd.returns (by simp) (hb hby at_123) hr
    · show Q0 Z p1 s0_PERMIT s1_DENY s2_DENY s3_PERMIT s4_NOT_APPLICABLE s5_INDETERMINATE_DP s6_INDETERMINATE_D s7_INDETERMINATE_P s8_INDETERMINATE s9_NOT_APPLICABLE h0 n0 _ T56.heap _
      rw [e56]
      exact ⟨rfl, N54⟩
  · rw [hk1]
    obtain ⟨_, _, ⟨T61, L61, k61, n61⟩, -, X61, ⟨Lc61, hQ61, l61, y61, z61⟩, st61⟩ := Jvm.LawKit.callS X0 hx (y := (⟨"com/example/verdikt/verdikt/model/ExtendedDecisionMirrorPinLaw", "pick", "(I)Lcom/example/verdikt/verdikt/model/ExtendedDecision;"⟩ : MethodName)) hown (mvT hZ (hw _ (List.mem_of_getElem? (i := 1) rfl))) (mvT hZ (hw _ (List.mem_of_getElem? (i := 2) rfl))) (mvT hZ (hw _ (List.mem_of_getElem? (i := 3) rfl))) (mvT hZ (hw _ (List.mem_of_getElem? (i := 4) rfl))) (by decide) (backOf (W := 0) (rm1 l Z a0 hw [] (5 : Int32) s0_PERMIT s1_DENY s4_NOT_APPLICABLE s5_INDETERMINATE_DP s6_INDETERMINATE_D s7_INDETERMINATE_P h0 n0 Z0 S_ExtendedDecision_PERMIT S_ExtendedDecision_DENY S_ExtendedDecision_NOT_APPLICABLE S_ExtendedDecision_INDETERMINATE_DP S_ExtendedDecision_INDETERMINATE_D S_ExtendedDecision_INDETERMINATE_P) hZ (hw _ (List.mem_of_getElem? (i := 4) rfl)) (hw _ (List.mem_of_getElem? (i := 3) rfl)) (by decide) (by decide)) (g := (mkF m 9 #[.val (.int p1), .val (.int (5 : Int32)), .unset, .unset, .unset, .unset, .unset, .unset] [(.int (5 : Int32))])) rfl (by rw [hml]; rfl) (argsL := [(.int (5 : Int32))]) (rest := []) (lenOf pd_1 rfl) rfl (by show 2 * 0 + _ ≤ _; exact Nat.le_of_eq rfl) (hb hby at_9) (fun _ _ => ⟨rfl, e0, (by decide : 0 + 0 ≤ _), (by decide : 0 + 0 ≤ _)⟩)
    dsimp only [Pt.U, Pt.locs, Pt.cells, Pt.slots] at X61 l61 y61 z61 st61 hQ61
    subst l61 y61 z61
    obtain ⟨hv61, N61q, e61⟩ := hQ61
    rw [show f1 (5 : Int32) s0_PERMIT s1_DENY s4_NOT_APPLICABLE s5_INDETERMINATE_DP s6_INDETERMINATE_D s7_INDETERMINATE_P = s5_INDETERMINATE_DP from (if_neg (by decide)).trans ((if_neg (by decide)).trans ((if_neg (by decide)).trans ((if_neg (by decide)).trans (if_neg (by decide)))))] at hv61
    subst hv61
    have N61 := Fr.app N0 N61q
    obtain ⟨cq62, kq62, q62a, q62b, q62c⟩ := isOf hZ e61 E_s5_INDETERMINATE_DP
    obtain ⟨_, _, ⟨T62, L62, k62, n62⟩, -, X62, ⟨Lc62, hQ62, l62, y62, z62⟩, st62⟩ := X61.virtualBack hx (y := (⟨"com/example/verdikt/verdikt/model/ExtendedDecision", "mirror", "()Lcom/example/verdikt/verdikt/model/ExtendedDecision;"⟩ : MethodName)) (z := (⟨"com/example/verdikt/verdikt/model/ExtendedDecision", "mirror", "()Lcom/example/verdikt/verdikt/model/ExtendedDecision;"⟩ : MethodName)) hown (mvT hZ (hw _ (List.mem_of_getElem? (i := 8) rfl))) (mvT hZ (hw _ (List.mem_of_getElem? (i := 9) rfl))) (notFace_of_selects (args := #[]) (mvT hZ (hw _ (List.mem_of_getElem? (i := 11) rfl)))) (mvT hZ (hw _ (List.mem_of_getElem? (i := 11) rfl))) (mvT hZ (hw _ (List.mem_of_getElem? (i := 10) rfl))) (by decide) (backOf (W := 0) (rmm5 l Z a0 hw [] s5_INDETERMINATE_DP s0_PERMIT s1_DENY s4_NOT_APPLICABLE s5_INDETERMINATE_DP s6_INDETERMINATE_D s7_INDETERMINATE_P h0 n0 Z0 E_s5_INDETERMINATE_DP F_s5_INDETERMINATE_DP_ordinal S_ExtendedDecision_PERMIT S_ExtendedDecision_DENY S_ExtendedDecision_NOT_APPLICABLE S_ExtendedDecision_INDETERMINATE_DP S_ExtendedDecision_INDETERMINATE_D S_ExtendedDecision_INDETERMINATE_P) hZ (hw _ (List.mem_of_getElem? (i := 12) rfl)) (hw _ (List.mem_of_getElem? (i := 6) rfl)) (by decide) (by decide)) q62a q62c (g := (mkF m 14 #[.val (.int p1), .val (.int (5 : Int32)), .val (.ref s5_INDETERMINATE_DP), .unset, .unset, .unset, .unset, .unset] [(.ref s5_INDETERMINATE_DP)])) rfl (by rw [hml]; rfl) (Steps.refl _) (argsL := []) (rest := []) (lenOf pd_2 rfl) rfl (by show 2 * 0 + _ ≤ _; exact Nat.le_of_eq rfl) (hb hby at_14) (fun _ _ => ⟨rfl, e61, (by decide : 0 + 0 ≤ _), (by decide : 0 + 0 ≤ _)⟩)
    dsimp only [Pt.U, Pt.locs, Pt.cells, Pt.slots] at X62 l62 y62 z62 st62 hQ62
    subst l62 y62 z62
    obtain ⟨hv62, N62q, e62⟩ := hQ62
    rw [show fm5 s5_INDETERMINATE_DP s0_PERMIT s1_DENY s4_NOT_APPLICABLE s5_INDETERMINATE_DP s6_INDETERMINATE_D s7_INDETERMINATE_P = s5_INDETERMINATE_DP from rfl] at hv62
    subst hv62
    have N62 := Fr.app N61 N62q
    obtain ⟨cq63, kq63, q63a, q63b, q63c⟩ := isOf hZ e62 E_s5_INDETERMINATE_DP
    obtain ⟨_, _, ⟨T63, L63, k63, n63⟩, -, X63, ⟨Lc63, hQ63, l63, y63, z63⟩, st63⟩ := X62.virtualBack hx (y := (⟨"com/example/verdikt/verdikt/model/ExtendedDecision", "mirror", "()Lcom/example/verdikt/verdikt/model/ExtendedDecision;"⟩ : MethodName)) (z := (⟨"com/example/verdikt/verdikt/model/ExtendedDecision", "mirror", "()Lcom/example/verdikt/verdikt/model/ExtendedDecision;"⟩ : MethodName)) hown (mvT hZ (hw _ (List.mem_of_getElem? (i := 8) rfl))) (mvT hZ (hw _ (List.mem_of_getElem? (i := 9) rfl))) (notFace_of_selects (args := #[]) (mvT hZ (hw _ (List.mem_of_getElem? (i := 11) rfl)))) (mvT hZ (hw _ (List.mem_of_getElem? (i := 11) rfl))) (mvT hZ (hw _ (List.mem_of_getElem? (i := 10) rfl))) (by decide) (backOf (W := 0) (rmm5 l Z a0 hw [] s5_INDETERMINATE_DP s0_PERMIT s1_DENY s4_NOT_APPLICABLE s5_INDETERMINATE_DP s6_INDETERMINATE_D s7_INDETERMINATE_P h0 n0 Z0 E_s5_INDETERMINATE_DP F_s5_INDETERMINATE_DP_ordinal S_ExtendedDecision_PERMIT S_ExtendedDecision_DENY S_ExtendedDecision_NOT_APPLICABLE S_ExtendedDecision_INDETERMINATE_DP S_ExtendedDecision_INDETERMINATE_D S_ExtendedDecision_INDETERMINATE_P) hZ (hw _ (List.mem_of_getElem? (i := 12) rfl)) (hw _ (List.mem_of_getElem? (i := 6) rfl)) (by decide) (by decide)) q63a q63c (g := (mkF m 25 #[.val (.int p1), .val (.int (5 : Int32)), .val (.ref s5_INDETERMINATE_DP), .val (.ref s5_INDETERMINATE_DP), .unset, .unset, .unset, .unset] [(.ref s5_INDETERMINATE_DP)])) rfl (by rw [hml]; rfl) (Steps.refl _) (argsL := []) (rest := []) (lenOf pd_2 rfl) rfl (by show 2 * 0 + _ ≤ _; exact Nat.le_of_eq rfl) (hb hby at_25) (fun _ _ => ⟨rfl, e62, (by decide : 0 + 0 ≤ _), (by decide : 0 + 0 ≤ _)⟩)
    dsimp only [Pt.U, Pt.locs, Pt.cells, Pt.slots] at X63 l63 y63 z63 st63 hQ63
    subst l63 y63 z63
    obtain ⟨hv63, N63q, e63⟩ := hQ63
    rw [show fm5 s5_INDETERMINATE_DP s0_PERMIT s1_DENY s4_NOT_APPLICABLE s5_INDETERMINATE_DP s6_INDETERMINATE_D s7_INDETERMINATE_P = s5_INDETERMINATE_DP from rfl] at hv63
    subst hv63
    have N63 := Fr.app N62 N63q
    obtain ⟨cq64, kq64, q64a, q64b, q64c⟩ := isOf hZ e63 E_s5_INDETERMINATE_DP
    obtain ⟨_, _, ⟨T64, L64, k64, n64⟩, -, X64, ⟨Lc64, hQ64, l64, y64, z64⟩, st64⟩ := X63.virtualBack hx (y := (⟨"com/example/verdikt/verdikt/model/ExtendedDecision", "decision", "()Lcom/example/verdikt/verdikt/model/Decision;"⟩ : MethodName)) (z := (⟨"com/example/verdikt/verdikt/model/ExtendedDecision", "decision", "()Lcom/example/verdikt/verdikt/model/Decision;"⟩ : MethodName)) hown (mvT hZ (hw _ (List.mem_of_getElem? (i := 25) rfl))) (mvT hZ (hw _ (List.mem_of_getElem? (i := 26) rfl))) (notFace_of_selects (args := #[]) (mvT hZ (hw _ (List.mem_of_getElem? (i := 28) rfl)))) (mvT hZ (hw _ (List.mem_of_getElem? (i := 28) rfl))) (mvT hZ (hw _ (List.mem_of_getElem? (i := 27) rfl))) (by decide) (backOf (W := 0) (rm4 l Z a0 hw [] s5_INDETERMINATE_DP s8_INDETERMINATE h0 n0 Z0 F_s5_INDETERMINATE_DP_decision) hZ (hw _ (List.mem_of_getElem? (i := 29) rfl)) (hw _ (List.mem_of_getElem? (i := 6) rfl)) (by decide) (by decide)) q64a q64c (g := (mkF m 40 #[.val (.int p1), .val (.int (5 : Int32)), .val (.ref s5_INDETERMINATE_DP), .val (.ref s5_INDETERMINATE_DP), .val (.int (1 : Int32)), .unset, .unset, .unset] [(.ref s5_INDETERMINATE_DP)])) rfl (by rw [hml]; rfl) (Steps.refl _) (argsL := []) (rest := []) (lenOf pd_3 rfl) rfl (by show 2 * 0 + _ ≤ _; exact Nat.le_of_eq rfl) (hb hby at_40) (fun _ _ => ⟨rfl, e63, (by decide : 0 + 0 ≤ _), (by decide : 0 + 0 ≤ _)⟩)
    dsimp only [Pt.U, Pt.locs, Pt.cells, Pt.slots] at X64 l64 y64 z64 st64 hQ64
    subst l64 y64 z64
    obtain ⟨hv64, N64q, e64⟩ := hQ64
    rw [show f4 s5_INDETERMINATE_DP s8_INDETERMINATE = s8_INDETERMINATE from rfl] at hv64
    subst hv64
    have N64 := Fr.app N63 N64q
    obtain ⟨cq65, kq65, q65a, q65b, q65c⟩ := isOf hZ e64 E_s5_INDETERMINATE_DP
    obtain ⟨_, _, ⟨T65, L65, k65, n65⟩, -, X65, ⟨Lc65, hQ65, l65, y65, z65⟩, st65⟩ := X64.virtualBack hx (y := (⟨"com/example/verdikt/verdikt/model/ExtendedDecision", "decision", "()Lcom/example/verdikt/verdikt/model/Decision;"⟩ : MethodName)) (z := (⟨"com/example/verdikt/verdikt/model/ExtendedDecision", "decision", "()Lcom/example/verdikt/verdikt/model/Decision;"⟩ : MethodName)) hown (mvT hZ (hw _ (List.mem_of_getElem? (i := 25) rfl))) (mvT hZ (hw _ (List.mem_of_getElem? (i := 26) rfl))) (notFace_of_selects (args := #[]) (mvT hZ (hw _ (List.mem_of_getElem? (i := 28) rfl)))) (mvT hZ (hw _ (List.mem_of_getElem? (i := 28) rfl))) (mvT hZ (hw _ (List.mem_of_getElem? (i := 27) rfl))) (by decide) (backOf (W := 1) (rm4 l Z a0 hw [] s5_INDETERMINATE_DP s8_INDETERMINATE h0 n0 Z0 F_s5_INDETERMINATE_DP_decision) hZ (hw _ (List.mem_of_getElem? (i := 29) rfl)) (hw _ (List.mem_of_getElem? (i := 6) rfl)) (by decide) (by decide)) q65a q65c (g := (mkF m 44 #[.val (.int p1), .val (.int (5 : Int32)), .val (.ref s5_INDETERMINATE_DP), .val (.ref s5_INDETERMINATE_DP), .val (.int (1 : Int32)), .unset, .unset, .unset] [(.ref s5_INDETERMINATE_DP), (.ref s8_INDETERMINATE)])) rfl (by rw [hml]; rfl) (Steps.refl _) (argsL := []) (rest := [(.ref s8_INDETERMINATE)]) (lenOf pd_3 rfl) rfl (by show 2 * 0 + _ ≤ _; exact Nat.le_of_eq rfl) (hb hby at_44) (fun _ _ => ⟨rfl, e64, (by decide : 0 + 0 ≤ _), (by decide : 0 + 0 ≤ _)⟩)
    dsimp only [Pt.U, Pt.locs, Pt.cells, Pt.slots] at X65 l65 y65 z65 st65 hQ65
    subst l65 y65 z65
    obtain ⟨hv65, N65q, e65⟩ := hQ65
    rw [show f4 s5_INDETERMINATE_DP s8_INDETERMINATE = s8_INDETERMINATE from rfl] at hv65
    subst hv65
    have N65 := Fr.app N64 N65q
    obtain ⟨_, _, ⟨T66, L66, k66, n66⟩, -, X66, ⟨Lc66, hQ66, l66, y66, z66⟩, st66⟩ := Jvm.LawKit.callS X65 hx (y := (⟨"com/example/verdikt/verdikt/model/ExtendedDecisionMirrorPinLaw", "swap", "(Lcom/example/verdikt/verdikt/model/Decision;)Lcom/example/verdikt/verdikt/model/Decision;"⟩ : MethodName)) hown (mvT hZ (hw _ (List.mem_of_getElem? (i := 35) rfl))) (mvT hZ (hw _ (List.mem_of_getElem? (i := 36) rfl))) (mvT hZ (hw _ (List.mem_of_getElem? (i := 3) rfl))) (mvT hZ (hw _ (List.mem_of_getElem? (i := 37) rfl))) (by decide) (backOf (W := 1) (rm5 l Z a0 hw [] s8_INDETERMINATE s2_DENY s3_PERMIT s8_INDETERMINATE s9_NOT_APPLICABLE h0 n0 Z0 S_Decision_DENY S_Decision_PERMIT S_Decision_INDETERMINATE S_Decision_NOT_APPLICABLE) hZ (hw _ (List.mem_of_getElem? (i := 37) rfl)) (hw _ (List.mem_of_getElem? (i := 3) rfl)) (by decide) (by decide)) (g := (mkF m 47 #[.val (.int p1), .val (.int (5 : Int32)), .val (.ref s5_INDETERMINATE_DP), .val (.ref s5_INDETERMINATE_DP), .val (.int (1 : Int32)), .unset, .unset, .unset] [(.ref s8_INDETERMINATE), (.ref s8_INDETERMINATE)])) rfl (by rw [hml]; rfl) (argsL := [(.ref s8_INDETERMINATE)]) (rest := [(.ref s8_INDETERMINATE)]) (lenOf pd_4 rfl) rfl (by show 2 * 0 + _ ≤ _; exact Nat.le_of_eq rfl) (hb hby at_47) (fun _ _ => ⟨rfl, e65, (by decide : 0 + 0 ≤ _), (by decide : 0 + 0 ≤ _)⟩)
    dsimp only [Pt.U, Pt.locs, Pt.cells, Pt.slots] at X66 l66 y66 z66 st66 hQ66
    subst l66 y66 z66
    obtain ⟨hv66, N66q, e66⟩ := hQ66
    rw [show f5 s8_INDETERMINATE s2_DENY s3_PERMIT s8_INDETERMINATE s9_NOT_APPLICABLE = s8_INDETERMINATE from (if_neg NE_s8_INDETERMINATE_s3_PERMIT).trans (if_neg NE_s8_INDETERMINATE_s2_DENY)] at hv66
    subst hv66
    have N66 := Fr.app N65 N66q
    obtain ⟨T67, X67, e67, st67⟩ := getS X66 hx hZ (host := "") hown (hw _ (List.mem_of_getElem? (i := 40) rfl)) Via.refl e66 S_ExtendedDecision_NOT_APPLICABLE (g := (mkF m 61 #[.val (.int p1), .val (.int (5 : Int32)), .val (.ref s5_INDETERMINATE_DP), .val (.ref s5_INDETERMINATE_DP), .val (.int (1 : Int32)), .val (.int (1 : Int32)), .unset, .unset] [(.ref s5_INDETERMINATE_DP)])) rfl (hb hby at_61)
    obtain ⟨T68, X68, e68, st68⟩ := getS X67 hx hZ (host := "") hown (hw _ (List.mem_of_getElem? (i := 42) rfl)) Via.refl e67 S_ExtendedDecision_INDETERMINATE_DP (g := (mkF m 68 #[.val (.int p1), .val (.int (5 : Int32)), .val (.ref s5_INDETERMINATE_DP), .val (.ref s5_INDETERMINATE_DP), .val (.int (1 : Int32)), .val (.int (1 : Int32)), .unset, .unset] [(.ref s5_INDETERMINATE_DP)])) rfl (hb hby at_68)
    have h69 : (1 : Int32) = (1 : Int32) := by decide
    have h70 : ¬ ((1 : Int32) = (0 : Int32)) := by decide
    have h71 : ¬ ((1 : Int32) = (0 : Int32)) := by decide
    have h72 : ¬ ((1 : Int32) = (0 : Int32)) := by decide
    obtain ⟨fs, hr, hrun, hended, hW, hsame⟩ := X68.leave (v := some (.int (1 : Int32))) (fun h => by rw [Bd.returns] at h; cases h)
    refine ⟨_, _, ?_, hrun, hended, _, _, rfl, ?_, ⟨_, rfl⟩, hW, hsame.mono (by decide) (by decide)⟩
    · show Steps p.tables e below (s₁.setTop (mkF m 8 #[.val (.int p1), .val (.int (5 : Int32)), .unset, .unset, .unset, .unset, .unset, .unset] [])) _
      refine XS.iloadN X0.here hx rfl (hb hby at_8) rfl ?_
      show Steps p.tables e below (s₁.setTop (mkF m 9 #[.val (.int p1), .val (.int (5 : Int32)), .unset, .unset, .unset, .unset, .unset, .unset] [(.int (5 : Int32))])) _
      refine st61 _ ?_
      show Steps p.tables e below (T61.setTop (mkF m 12 #[.val (.int p1), .val (.int (5 : Int32)), .unset, .unset, .unset, .unset, .unset, .unset] [(.ref s5_INDETERMINATE_DP)])) _
      refine XS.astoreN X61.here hx rfl (hb hby at_12) rfl rfl (l' := #[.val (.int p1), .val (.int (5 : Int32)), .val (.ref s5_INDETERMINATE_DP), .unset, .unset, .unset, .unset, .unset]) rfl ?_
      show Steps p.tables e below (T61.setTop (mkF m 13 #[.val (.int p1), .val (.int (5 : Int32)), .val (.ref s5_INDETERMINATE_DP), .unset, .unset, .unset, .unset, .unset] [])) _
      refine XS.aloadN X61.here hx rfl (hb hby at_13) rfl rfl ?_
      show Steps p.tables e below (T61.setTop (mkF m 14 #[.val (.int p1), .val (.int (5 : Int32)), .val (.ref s5_INDETERMINATE_DP), .unset, .unset, .unset, .unset, .unset] [(.ref s5_INDETERMINATE_DP)])) _
      refine st62.trans ?_
      show Steps p.tables e below (T62.setTop (mkF m 17 #[.val (.int p1), .val (.int (5 : Int32)), .val (.ref s5_INDETERMINATE_DP), .unset, .unset, .unset, .unset, .unset] [(.ref s5_INDETERMINATE_DP)])) _
      refine XS.astoreN X62.here hx rfl (hb hby at_17) rfl rfl (l' := #[.val (.int p1), .val (.int (5 : Int32)), .val (.ref s5_INDETERMINATE_DP), .val (.ref s5_INDETERMINATE_DP), .unset, .unset, .unset, .unset]) rfl ?_
      show Steps p.tables e below (T62.setTop (mkF m 18 #[.val (.int p1), .val (.int (5 : Int32)), .val (.ref s5_INDETERMINATE_DP), .val (.ref s5_INDETERMINATE_DP), .unset, .unset, .unset, .unset] [])) _
      refine XS.aloadN X62.here hx rfl (hb hby at_18) rfl rfl ?_
      show Steps p.tables e below (T62.setTop (mkF m 19 #[.val (.int p1), .val (.int (5 : Int32)), .val (.ref s5_INDETERMINATE_DP), .val (.ref s5_INDETERMINATE_DP), .unset, .unset, .unset, .unset] [(.ref s5_INDETERMINATE_DP)])) _
      refine XT.ifnonnullYes X62.here hx rfl (pc0 := 19) (pc' := 24) rfl (hb hby at_19) rfl (by decide) (by decide) ?_
      show Steps p.tables e below (T62.setTop (mkF m 24 #[.val (.int p1), .val (.int (5 : Int32)), .val (.ref s5_INDETERMINATE_DP), .val (.ref s5_INDETERMINATE_DP), .unset, .unset, .unset, .unset] [])) _
      refine XS.aloadN X62.here hx rfl (hb hby at_24) rfl rfl ?_
      show Steps p.tables e below (T62.setTop (mkF m 25 #[.val (.int p1), .val (.int (5 : Int32)), .val (.ref s5_INDETERMINATE_DP), .val (.ref s5_INDETERMINATE_DP), .unset, .unset, .unset, .unset] [(.ref s5_INDETERMINATE_DP)])) _
      refine st63.trans ?_
      show Steps p.tables e below (T63.setTop (mkF m 28 #[.val (.int p1), .val (.int (5 : Int32)), .val (.ref s5_INDETERMINATE_DP), .val (.ref s5_INDETERMINATE_DP), .unset, .unset, .unset, .unset] [(.ref s5_INDETERMINATE_DP)])) _
      refine XS.aloadN X63.here hx rfl (hb hby at_28) rfl rfl ?_
      show Steps p.tables e below (T63.setTop (mkF m 29 #[.val (.int p1), .val (.int (5 : Int32)), .val (.ref s5_INDETERMINATE_DP), .val (.ref s5_INDETERMINATE_DP), .unset, .unset, .unset, .unset] [(.ref s5_INDETERMINATE_DP), (.ref s5_INDETERMINATE_DP)])) _
      refine XT.acmpNo X63.here hx rfl (hb hby at_29) rfl rfl rfl (own_aT rfl).2 ?_
      show Steps p.tables e below (T63.setTop (mkF m 32 #[.val (.int p1), .val (.int (5 : Int32)), .val (.ref s5_INDETERMINATE_DP), .val (.ref s5_INDETERMINATE_DP), .unset, .unset, .unset, .unset] [])) _
      refine XS.iconst X63.here hx rfl (hb hby at_32) ?_
      show Steps p.tables e below (T63.setTop (mkF m 33 #[.val (.int p1), .val (.int (5 : Int32)), .val (.ref s5_INDETERMINATE_DP), .val (.ref s5_INDETERMINATE_DP), .unset, .unset, .unset, .unset] [(.int (1 : Int32))])) _
      refine XS.goto X63.here hx rfl (pc0 := 33) (pc' := 37) rfl (hb hby at_33) (by decide) (by decide) ?_
      show Steps p.tables e below (T63.setTop (mkF m 37 #[.val (.int p1), .val (.int (5 : Int32)), .val (.ref s5_INDETERMINATE_DP), .val (.ref s5_INDETERMINATE_DP), .unset, .unset, .unset, .unset] [(.int (1 : Int32))])) _
      refine XS.istore X63.here hx rfl (hb hby at_37) rfl (l' := #[.val (.int p1), .val (.int (5 : Int32)), .val (.ref s5_INDETERMINATE_DP), .val (.ref s5_INDETERMINATE_DP), .val (.int (1 : Int32)), .unset, .unset, .unset]) rfl ?_
      show Steps p.tables e below (T63.setTop (mkF m 39 #[.val (.int p1), .val (.int (5 : Int32)), .val (.ref s5_INDETERMINATE_DP), .val (.ref s5_INDETERMINATE_DP), .val (.int (1 : Int32)), .unset, .unset, .unset] [])) _
      refine XS.aloadN X63.here hx rfl (hb hby at_39) rfl rfl ?_
      show Steps p.tables e below (T63.setTop (mkF m 40 #[.val (.int p1), .val (.int (5 : Int32)), .val (.ref s5_INDETERMINATE_DP), .val (.ref s5_INDETERMINATE_DP), .val (.int (1 : Int32)), .unset, .unset, .unset] [(.ref s5_INDETERMINATE_DP)])) _
      refine st64.trans ?_
      show Steps p.tables e below (T64.setTop (mkF m 43 #[.val (.int p1), .val (.int (5 : Int32)), .val (.ref s5_INDETERMINATE_DP), .val (.ref s5_INDETERMINATE_DP), .val (.int (1 : Int32)), .unset, .unset, .unset] [(.ref s8_INDETERMINATE)])) _
      refine XS.aloadN X64.here hx rfl (hb hby at_43) rfl rfl ?_
      show Steps p.tables e below (T64.setTop (mkF m 44 #[.val (.int p1), .val (.int (5 : Int32)), .val (.ref s5_INDETERMINATE_DP), .val (.ref s5_INDETERMINATE_DP), .val (.int (1 : Int32)), .unset, .unset, .unset] [(.ref s5_INDETERMINATE_DP), (.ref s8_INDETERMINATE)])) _
      refine st65.trans ?_
      show Steps p.tables e below (T65.setTop (mkF m 47 #[.val (.int p1), .val (.int (5 : Int32)), .val (.ref s5_INDETERMINATE_DP), .val (.ref s5_INDETERMINATE_DP), .val (.int (1 : Int32)), .unset, .unset, .unset] [(.ref s8_INDETERMINATE), (.ref s8_INDETERMINATE)])) _
      refine st66 _ ?_
      show Steps p.tables e below (T66.setTop (mkF m 50 #[.val (.int p1), .val (.int (5 : Int32)), .val (.ref s5_INDETERMINATE_DP), .val (.ref s5_INDETERMINATE_DP), .val (.int (1 : Int32)), .unset, .unset, .unset] [(.ref s8_INDETERMINATE), (.ref s8_INDETERMINATE)])) _
      refine XT.acmpNo X66.here hx rfl (hb hby at_50) rfl rfl rfl (own_aT rfl).2 ?_
      show Steps p.tables e below (T66.setTop (mkF m 53 #[.val (.int p1), .val (.int (5 : Int32)), .val (.ref s5_INDETERMINATE_DP), .val (.ref s5_INDETERMINATE_DP), .val (.int (1 : Int32)), .unset, .unset, .unset] [])) _
      refine XS.iconst X66.here hx rfl (hb hby at_53) ?_
      show Steps p.tables e below (T66.setTop (mkF m 54 #[.val (.int p1), .val (.int (5 : Int32)), .val (.ref s5_INDETERMINATE_DP), .val (.ref s5_INDETERMINATE_DP), .val (.int (1 : Int32)), .unset, .unset, .unset] [(.int (1 : Int32))])) _
      refine XS.goto X66.here hx rfl (pc0 := 54) (pc' := 58) rfl (hb hby at_54) (by decide) (by decide) ?_
      show Steps p.tables e below (T66.setTop (mkF m 58 #[.val (.int p1), .val (.int (5 : Int32)), .val (.ref s5_INDETERMINATE_DP), .val (.ref s5_INDETERMINATE_DP), .val (.int (1 : Int32)), .unset, .unset, .unset] [(.int (1 : Int32))])) _
      refine XS.istore X66.here hx rfl (hb hby at_58) rfl (l' := #[.val (.int p1), .val (.int (5 : Int32)), .val (.ref s5_INDETERMINATE_DP), .val (.ref s5_INDETERMINATE_DP), .val (.int (1 : Int32)), .val (.int (1 : Int32)), .unset, .unset]) rfl ?_
      show Steps p.tables e below (T66.setTop (mkF m 60 #[.val (.int p1), .val (.int (5 : Int32)), .val (.ref s5_INDETERMINATE_DP), .val (.ref s5_INDETERMINATE_DP), .val (.int (1 : Int32)), .val (.int (1 : Int32)), .unset, .unset] [])) _
      refine XS.aloadN X66.here hx rfl (hb hby at_60) rfl rfl ?_
      show Steps p.tables e below (T66.setTop (mkF m 61 #[.val (.int p1), .val (.int (5 : Int32)), .val (.ref s5_INDETERMINATE_DP), .val (.ref s5_INDETERMINATE_DP), .val (.int (1 : Int32)), .val (.int (1 : Int32)), .unset, .unset] [(.ref s5_INDETERMINATE_DP)])) _
      refine st67 _ ?_
      show Steps p.tables e below (T67.setTop (mkF m 64 #[.val (.int p1), .val (.int (5 : Int32)), .val (.ref s5_INDETERMINATE_DP), .val (.ref s5_INDETERMINATE_DP), .val (.int (1 : Int32)), .val (.int (1 : Int32)), .unset, .unset] [(.ref s4_NOT_APPLICABLE), (.ref s5_INDETERMINATE_DP)])) _
      refine XT.acmpNo X67.here hx rfl (hb hby at_64) rfl rfl rfl (own_aF (Ne.symm NE_s4_NOT_APPLICABLE_s5_INDETERMINATE_DP)).1 ?_
      show Steps p.tables e below (T67.setTop (mkF m 67 #[.val (.int p1), .val (.int (5 : Int32)), .val (.ref s5_INDETERMINATE_DP), .val (.ref s5_INDETERMINATE_DP), .val (.int (1 : Int32)), .val (.int (1 : Int32)), .unset, .unset] [])) _
      refine XS.aloadN X67.here hx rfl (hb hby at_67) rfl rfl ?_
      show Steps p.tables e below (T67.setTop (mkF m 68 #[.val (.int p1), .val (.int (5 : Int32)), .val (.ref s5_INDETERMINATE_DP), .val (.ref s5_INDETERMINATE_DP), .val (.int (1 : Int32)), .val (.int (1 : Int32)), .unset, .unset] [(.ref s5_INDETERMINATE_DP)])) _
      refine st68 _ ?_
      show Steps p.tables e below (T68.setTop (mkF m 71 #[.val (.int p1), .val (.int (5 : Int32)), .val (.ref s5_INDETERMINATE_DP), .val (.ref s5_INDETERMINATE_DP), .val (.int (1 : Int32)), .val (.int (1 : Int32)), .unset, .unset] [(.ref s5_INDETERMINATE_DP), (.ref s5_INDETERMINATE_DP)])) _
      refine XT.acmpNo X68.here hx rfl (hb hby at_71) rfl rfl rfl (own_aT rfl).2 ?_
      show Steps p.tables e below (T68.setTop (mkF m 74 #[.val (.int p1), .val (.int (5 : Int32)), .val (.ref s5_INDETERMINATE_DP), .val (.ref s5_INDETERMINATE_DP), .val (.int (1 : Int32)), .val (.int (1 : Int32)), .unset, .unset] [])) _
      refine XS.iconst X68.here hx rfl (hb hby at_74) ?_
      show Steps p.tables e below (T68.setTop (mkF m 75 #[.val (.int p1), .val (.int (5 : Int32)), .val (.ref s5_INDETERMINATE_DP), .val (.ref s5_INDETERMINATE_DP), .val (.int (1 : Int32)), .val (.int (1 : Int32)), .unset, .unset] [(.int (1 : Int32))])) _
      refine XS.goto X68.here hx rfl (pc0 := 75) (pc' := 79) rfl (hb hby at_75) (by decide) (by decide) ?_
      show Steps p.tables e below (T68.setTop (mkF m 79 #[.val (.int p1), .val (.int (5 : Int32)), .val (.ref s5_INDETERMINATE_DP), .val (.ref s5_INDETERMINATE_DP), .val (.int (1 : Int32)), .val (.int (1 : Int32)), .unset, .unset] [(.int (1 : Int32))])) _
      refine XS.istore X68.here hx rfl (hb hby at_79) rfl (l' := #[.val (.int p1), .val (.int (5 : Int32)), .val (.ref s5_INDETERMINATE_DP), .val (.ref s5_INDETERMINATE_DP), .val (.int (1 : Int32)), .val (.int (1 : Int32)), .val (.int (1 : Int32)), .unset]) rfl ?_
      show Steps p.tables e below (T68.setTop (mkF m 81 #[.val (.int p1), .val (.int (5 : Int32)), .val (.ref s5_INDETERMINATE_DP), .val (.ref s5_INDETERMINATE_DP), .val (.int (1 : Int32)), .val (.int (1 : Int32)), .val (.int (1 : Int32)), .unset] [])) _
      refine XS.aloadN X68.here hx rfl (hb hby at_81) rfl rfl ?_
      show Steps p.tables e below (T68.setTop (mkF m 82 #[.val (.int p1), .val (.int (5 : Int32)), .val (.ref s5_INDETERMINATE_DP), .val (.ref s5_INDETERMINATE_DP), .val (.int (1 : Int32)), .val (.int (1 : Int32)), .val (.int (1 : Int32)), .unset] [(.ref s5_INDETERMINATE_DP)])) _
      refine XS.aloadN X68.here hx rfl (hb hby at_82) rfl rfl ?_
      show Steps p.tables e below (T68.setTop (mkF m 83 #[.val (.int p1), .val (.int (5 : Int32)), .val (.ref s5_INDETERMINATE_DP), .val (.ref s5_INDETERMINATE_DP), .val (.int (1 : Int32)), .val (.int (1 : Int32)), .val (.int (1 : Int32)), .unset] [(.ref s5_INDETERMINATE_DP), (.ref s5_INDETERMINATE_DP)])) _
      refine XT.acmpNo X68.here hx rfl (hb hby at_83) rfl rfl rfl (own_aT rfl).2 ?_
      show Steps p.tables e below (T68.setTop (mkF m 86 #[.val (.int p1), .val (.int (5 : Int32)), .val (.ref s5_INDETERMINATE_DP), .val (.ref s5_INDETERMINATE_DP), .val (.int (1 : Int32)), .val (.int (1 : Int32)), .val (.int (1 : Int32)), .unset] [])) _
      refine XS.iconst X68.here hx rfl (hb hby at_86) ?_
      show Steps p.tables e below (T68.setTop (mkF m 87 #[.val (.int p1), .val (.int (5 : Int32)), .val (.ref s5_INDETERMINATE_DP), .val (.ref s5_INDETERMINATE_DP), .val (.int (1 : Int32)), .val (.int (1 : Int32)), .val (.int (1 : Int32)), .unset] [(.int (1 : Int32))])) _
      refine XS.goto X68.here hx rfl (pc0 := 87) (pc' := 91) rfl (hb hby at_87) (by decide) (by decide) ?_
      show Steps p.tables e below (T68.setTop (mkF m 91 #[.val (.int p1), .val (.int (5 : Int32)), .val (.ref s5_INDETERMINATE_DP), .val (.ref s5_INDETERMINATE_DP), .val (.int (1 : Int32)), .val (.int (1 : Int32)), .val (.int (1 : Int32)), .unset] [(.int (1 : Int32))])) _
      refine XS.iload X68.here hx rfl (hb hby at_91) rfl ?_
      show Steps p.tables e below (T68.setTop (mkF m 93 #[.val (.int p1), .val (.int (5 : Int32)), .val (.ref s5_INDETERMINATE_DP), .val (.ref s5_INDETERMINATE_DP), .val (.int (1 : Int32)), .val (.int (1 : Int32)), .val (.int (1 : Int32)), .unset] [(.int (1 : Int32)), (.int (1 : Int32))])) _
      refine XS.icmpNo X68.here hx rfl (hb hby at_93) rfl (teq h69).2 ?_
      show Steps p.tables e below (T68.setTop (mkF m 96 #[.val (.int p1), .val (.int (5 : Int32)), .val (.ref s5_INDETERMINATE_DP), .val (.ref s5_INDETERMINATE_DP), .val (.int (1 : Int32)), .val (.int (1 : Int32)), .val (.int (1 : Int32)), .unset] [])) _
      refine XS.iconst X68.here hx rfl (hb hby at_96) ?_
      show Steps p.tables e below (T68.setTop (mkF m 97 #[.val (.int p1), .val (.int (5 : Int32)), .val (.ref s5_INDETERMINATE_DP), .val (.ref s5_INDETERMINATE_DP), .val (.int (1 : Int32)), .val (.int (1 : Int32)), .val (.int (1 : Int32)), .unset] [(.int (1 : Int32))])) _
      refine XS.goto X68.here hx rfl (pc0 := 97) (pc' := 101) rfl (hb hby at_97) (by decide) (by decide) ?_
      show Steps p.tables e below (T68.setTop (mkF m 101 #[.val (.int p1), .val (.int (5 : Int32)), .val (.ref s5_INDETERMINATE_DP), .val (.ref s5_INDETERMINATE_DP), .val (.int (1 : Int32)), .val (.int (1 : Int32)), .val (.int (1 : Int32)), .unset] [(.int (1 : Int32))])) _
      refine XS.istore X68.here hx rfl (hb hby at_101) rfl (l' := #[.val (.int p1), .val (.int (5 : Int32)), .val (.ref s5_INDETERMINATE_DP), .val (.ref s5_INDETERMINATE_DP), .val (.int (1 : Int32)), .val (.int (1 : Int32)), .val (.int (1 : Int32)), .val (.int (1 : Int32))]) rfl ?_
      show Steps p.tables e below (T68.setTop (mkF m 103 #[.val (.int p1), .val (.int (5 : Int32)), .val (.ref s5_INDETERMINATE_DP), .val (.ref s5_INDETERMINATE_DP), .val (.int (1 : Int32)), .val (.int (1 : Int32)), .val (.int (1 : Int32)), .val (.int (1 : Int32))] [])) _
      refine XS.iload X68.here hx rfl (hb hby at_103) rfl ?_
      show Steps p.tables e below (T68.setTop (mkF m 105 #[.val (.int p1), .val (.int (5 : Int32)), .val (.ref s5_INDETERMINATE_DP), .val (.ref s5_INDETERMINATE_DP), .val (.int (1 : Int32)), .val (.int (1 : Int32)), .val (.int (1 : Int32)), .val (.int (1 : Int32))] [(.int (1 : Int32))])) _
      refine XS.ifNo X68.here hx rfl (hb hby at_105) rfl ((if0 _ _).trans (feq h70).1) ?_
      show Steps p.tables e below (T68.setTop (mkF m 108 #[.val (.int p1), .val (.int (5 : Int32)), .val (.ref s5_INDETERMINATE_DP), .val (.ref s5_INDETERMINATE_DP), .val (.int (1 : Int32)), .val (.int (1 : Int32)), .val (.int (1 : Int32)), .val (.int (1 : Int32))] [])) _
      refine XS.iload X68.here hx rfl (hb hby at_108) rfl ?_
      show Steps p.tables e below (T68.setTop (mkF m 110 #[.val (.int p1), .val (.int (5 : Int32)), .val (.ref s5_INDETERMINATE_DP), .val (.ref s5_INDETERMINATE_DP), .val (.int (1 : Int32)), .val (.int (1 : Int32)), .val (.int (1 : Int32)), .val (.int (1 : Int32))] [(.int (1 : Int32))])) _
      refine XS.ifNo X68.here hx rfl (hb hby at_110) rfl ((if0 _ _).trans (feq h71).1) ?_
      show Steps p.tables e below (T68.setTop (mkF m 113 #[.val (.int p1), .val (.int (5 : Int32)), .val (.ref s5_INDETERMINATE_DP), .val (.ref s5_INDETERMINATE_DP), .val (.int (1 : Int32)), .val (.int (1 : Int32)), .val (.int (1 : Int32)), .val (.int (1 : Int32))] [])) _
      refine XS.iload X68.here hx rfl (hb hby at_113) rfl ?_
      show Steps p.tables e below (T68.setTop (mkF m 115 #[.val (.int p1), .val (.int (5 : Int32)), .val (.ref s5_INDETERMINATE_DP), .val (.ref s5_INDETERMINATE_DP), .val (.int (1 : Int32)), .val (.int (1 : Int32)), .val (.int (1 : Int32)), .val (.int (1 : Int32))] [(.int (1 : Int32))])) _
      refine XS.ifNo X68.here hx rfl (hb hby at_115) rfl ((if0 _ _).trans (feq h72).1) ?_
      show Steps p.tables e below (T68.setTop (mkF m 118 #[.val (.int p1), .val (.int (5 : Int32)), .val (.ref s5_INDETERMINATE_DP), .val (.ref s5_INDETERMINATE_DP), .val (.int (1 : Int32)), .val (.int (1 : Int32)), .val (.int (1 : Int32)), .val (.int (1 : Int32))] [])) _
      refine XS.iconst X68.here hx rfl (hb hby at_118) ?_
      show Steps p.tables e below (T68.setTop (mkF m 119 #[.val (.int p1), .val (.int (5 : Int32)), .val (.ref s5_INDETERMINATE_DP), .val (.ref s5_INDETERMINATE_DP), .val (.int (1 : Int32)), .val (.int (1 : Int32)), .val (.int (1 : Int32)), .val (.int (1 : Int32))] [(.int (1 : Int32))])) _
      refine XS.goto X68.here hx rfl (pc0 := 119) (pc' := 123) rfl (hb hby at_119) (by decide) (by decide) ?_
      show Steps p.tables e below (T68.setTop (mkF m 123 #[.val (.int p1), .val (.int (5 : Int32)), .val (.ref s5_INDETERMINATE_DP), .val (.ref s5_INDETERMINATE_DP), .val (.int (1 : Int32)), .val (.int (1 : Int32)), .val (.int (1 : Int32)), .val (.int (1 : Int32))] [(.int (1 : Int32))])) _
      exact retN X68 hx (t := .boolean) Bd.returns (by simp) (hb hby at_123) hr
    · show Q0 Z p1 s0_PERMIT s1_DENY s2_DENY s3_PERMIT s4_NOT_APPLICABLE s5_INDETERMINATE_DP s6_INDETERMINATE_D s7_INDETERMINATE_P s8_INDETERMINATE s9_NOT_APPLICABLE h0 n0 _ T68.heap _
      rw [e68]
      exact ⟨rfl, N66⟩
set_option maxRecDepth 65536 in
set_option maxHeartbeats 40000000 in
theorem comes_1 {Post : Tables → Env → Array Value → State → Outcome → State → Prop} (hpost : ∀ tb e args s v u, (limb_1_1.after args s (.returned v) u = true ∧ limb_1_2.after args s (.returned v) u = true ∧ True) → FrameEnd s (.returned v) u (Jvm.fieldLocs frame_1_writes args s ++ Jvm.arrayLocs frame_1_arrays args s ++ Jvm.staticLocs frame_1_statics s) 0 0 → Post tb e args s (.returned v) u) :
    ArmFor flags0 classFile x code maxLocals ret World_1 tables_1 room_1 Calls_1 rest_1 Pre_1 Post := by
  intro l hfl _ _ p e ha hc hk s m args below hf hA hF happ hP
  obtain ⟨hcalls, hrest, hpre⟩ := hP
  obtain ⟨-, -, -, hnamed, -, -, -, hat⟩ := (Spec.applies_iff hf).mp happ
  obtain ⟨hg, hn⟩ := and_e (Cond.before_iff.mp (show (Jvm.Cond.and given_1 narrow_1).before args s = true from hpre))
  obtain ⟨hcnt, hg0⟩ := and_e hg
  obtain ⟨w0, rfl⟩ : ∃ w0 : Value, args = #[w0] := by
    have hs : args.size = 1 := by simpa [Cond.value, given_1] using hcnt
    obtain ⟨L⟩ := args
    match L, hs with
    | [w0], _ => exact ⟨w0, rfl⟩
  have hw := fun d (hd : d ∈ tables_1) => atoms_spec (ws := Jvm.Cond.code x code maxLocals ret :: tables_1) hat d (List.mem_cons_of_mem _ hd)
  have hfit : Fit s := fun {y c} hc i hi => by
    obtain ⟨ha, rfl⟩ := Array.getElem?_eq_some_iff.mp hc
    have q := List.all_eq_true.mp ((Array.all_eq_true_iff_forall_mem.mp hF) _ (Array.getElem_mem ha)) i (List.mem_range.mpr hi)
    simpa [Array.getElem?_eq_getElem hi] using q
  obtain ⟨i0, ei0⟩ := is_v hg0
  obtain rfl : w0 = (.int i0) := Option.some.inj ei0
  obtain ⟨hc0, hn1⟩ := and_e hn
  obtain ⟨hc1, hn2⟩ := and_e hn1
  obtain ⟨hc2, hn3⟩ := and_e hn2
  obtain ⟨hc3, hn4⟩ := and_e hn3
  obtain ⟨hc4, hn5⟩ := and_e hn4
  obtain ⟨hc5, hn6⟩ := and_e hn5
  obtain ⟨hc6, hn7⟩ := and_e hn6
  obtain ⟨hc7, hn8⟩ := and_e hn7
  obtain ⟨hc8, hn9⟩ := and_e hn8
  obtain ⟨hc9, hn10⟩ := and_e hn9
  obtain ⟨hc10, hn11⟩ := and_e hn10
  obtain ⟨hc11, hn12⟩ := and_e hn11
  obtain ⟨hc12, hn13⟩ := and_e hn12
  obtain ⟨hc13, hn14⟩ := and_e hn13
  obtain ⟨hc14, hn15⟩ := and_e hn14
  obtain ⟨hc15, hn16⟩ := and_e hn15
  obtain ⟨hc16, hn17⟩ := and_e hn16
  obtain ⟨hc17, hn18⟩ := and_e hn17
  obtain ⟨hc18, hn19⟩ := and_e hn18
  obtain ⟨hc19, hn20⟩ := and_e hn19
  obtain ⟨hc20, hn21⟩ := and_e hn20
  obtain ⟨hc21, hn22⟩ := and_e hn21
  obtain ⟨hc22, hn23⟩ := and_e hn22
  obtain ⟨hc23, hn24⟩ := and_e hn23
  obtain ⟨hc24, hn25⟩ := and_e hn24
  have hc25 := hn25
  obtain ⟨s0_PERMIT, ex0⟩ := exa_v hc0
  have S0 := Sta.start ex0 (Or.inr ⟨(hw _ (List.mem_of_getElem? (i := 6) rfl)), (hw _ (List.mem_of_getElem? (i := 7) rfl))⟩)
  have E0 := Exa.start ex0 hc0
  obtain ⟨s1_DENY, ex2⟩ := exa_v hc2
  have S2 := Sta.start ex2 (Or.inr ⟨(hw _ (List.mem_of_getElem? (i := 6) rfl)), (hw _ (List.mem_of_getElem? (i := 23) rfl))⟩)
  have E2 := Exa.start ex2 hc2
  obtain ⟨s2_DENY, ex4⟩ := exa_v hc4
  have S4 := Sta.start ex4 (Or.inr ⟨(hw _ (List.mem_of_getElem? (i := 32) rfl)), (hw _ (List.mem_of_getElem? (i := 33) rfl))⟩)
  have E4 := Exa.start ex4 hc4
  obtain ⟨s3_PERMIT, ex6⟩ := exa_v hc6
  have S6 := Sta.start ex6 (Or.inr ⟨(hw _ (List.mem_of_getElem? (i := 32) rfl)), (hw _ (List.mem_of_getElem? (i := 34) rfl))⟩)
  have E6 := Exa.start ex6 hc6
  obtain ⟨s4_NOT_APPLICABLE, ex8⟩ := exa_v hc8
  have S8 := Sta.start ex8 (Or.inr ⟨(hw _ (List.mem_of_getElem? (i := 6) rfl)), (hw _ (List.mem_of_getElem? (i := 41) rfl))⟩)
  have E8 := Exa.start ex8 hc8
  obtain ⟨s5_INDETERMINATE_DP, ex10⟩ := exa_v hc10
  have S10 := Sta.start ex10 (Or.inr ⟨(hw _ (List.mem_of_getElem? (i := 6) rfl)), (hw _ (List.mem_of_getElem? (i := 43) rfl))⟩)
  have E10 := Exa.start ex10 hc10
  obtain ⟨s6_INDETERMINATE_D, ex12⟩ := exa_v hc12
  have S12 := Sta.start ex12 (Or.inr ⟨(hw _ (List.mem_of_getElem? (i := 6) rfl)), (hw _ (List.mem_of_getElem? (i := 45) rfl))⟩)
  have E12 := Exa.start ex12 hc12
  obtain ⟨s7_INDETERMINATE_P, ex14⟩ := exa_v hc14
  have S14 := Sta.start ex14 (Or.inr ⟨(hw _ (List.mem_of_getElem? (i := 6) rfl)), (hw _ (List.mem_of_getElem? (i := 47) rfl))⟩)
  have E14 := Exa.start ex14 hc14
  obtain ⟨s8_INDETERMINATE, ex16⟩ := exa_v hc16
  have S16 := Sta.start ex16 (Or.inr ⟨(hw _ (List.mem_of_getElem? (i := 32) rfl)), (hw _ (List.mem_of_getElem? (i := 49) rfl))⟩)
  have E16 := Exa.start ex16 hc16
  obtain ⟨s9_NOT_APPLICABLE, ex22⟩ := exa_v hc22
  have S22 := Sta.start ex22 (Or.inr ⟨(hw _ (List.mem_of_getElem? (i := 32) rfl)), (hw _ (List.mem_of_getElem? (i := 50) rfl))⟩)
  have E22 := Exa.start ex22 hc22
  have f1 := own_fint ex0 hc1
  have F1 := Fld.start f1
  have f3 := own_fint ex2 hc3
  have F3 := Fld.start f3
  have ne1_3 := own_fne f1 f3 (by decide)
  have f5 := own_fref ex2 ex4 hc5
  have F5 := Fld.start f5
  have f7 := own_fref ex0 ex6 hc7
  have F7 := Fld.start f7
  have f9 := own_fint ex8 hc9
  have F9 := Fld.start f9
  have ne1_9 := own_fne f1 f9 (by decide)
  have ne3_9 := own_fne f3 f9 (by decide)
  have f11 := own_fint ex10 hc11
  have F11 := Fld.start f11
  have ne1_11 := own_fne f1 f11 (by decide)
  have ne3_11 := own_fne f3 f11 (by decide)
  have ne9_11 := own_fne f9 f11 (by decide)
  have f13 := own_fint ex12 hc13
  have F13 := Fld.start f13
  have ne1_13 := own_fne f1 f13 (by decide)
  have ne3_13 := own_fne f3 f13 (by decide)
  have ne9_13 := own_fne f9 f13 (by decide)
  have ne11_13 := own_fne f11 f13 (by decide)
  have f15 := own_fint ex14 hc15
  have F15 := Fld.start f15
  have ne1_15 := own_fne f1 f15 (by decide)
  have ne3_15 := own_fne f3 f15 (by decide)
  have ne9_15 := own_fne f9 f15 (by decide)
  have ne11_15 := own_fne f11 f15 (by decide)
  have ne13_15 := own_fne f13 f15 (by decide)
  have f17 := own_fref ex14 ex16 hc17
  have F17 := Fld.start f17
  have f18 := own_fref ex12 ex16 hc18
  have F18 := Fld.start f18
  have f19 := own_fint ex16 hc19
  have F19 := Fld.start f19
  have f20 := own_fint ex6 hc20
  have F20 := Fld.start f20
  have ne19_20 := own_fne f19 f20 (by decide)
  have f21 := own_fint ex4 hc21
  have F21 := Fld.start f21
  have ne19_21 := own_fne f19 f21 (by decide)
  have ne20_21 := own_fne f20 f21 (by decide)
  have f23 := own_fref ex8 ex22 hc23
  have F23 := Fld.start f23
  have f24 := own_fint ex22 hc24
  have F24 := Fld.start f24
  have ne19_24 := own_fne f19 f24 (by decide)
  have ne20_24 := own_fne f20 f24 (by decide)
  have ne21_24 := own_fne f21 f24 (by decide)
  have f25 := own_fref ex10 ex16 hc25
  have F25 := Fld.start f25
  obtain ⟨n, o, h1, h2, h3, _, L, rfl, ⟨rfl, N⟩, hq⟩ := rm0 l s _ hw tables_1 i0 s0_PERMIT s1_DENY s2_DENY s3_PERMIT s4_NOT_APPLICABLE s5_INDETERMINATE_DP s6_INDETERMINATE_D s7_INDETERMINATE_P s8_INDETERMINATE s9_NOT_APPLICABLE s.heap s.heap.size (Nat.le_refl _) S0 E0 S2 E2 S4 E4 S6 E6 S8 E8 S10 E10 S12 E12 S14 E14 S16 E16 S22 E22 F1 F3 ne1_3 F5 F7 F9 ne1_9 ne3_9 F11 ne1_11 ne3_11 ne9_11 F13 ne1_13 ne3_13 ne9_13 ne11_13 F15 ne1_15 ne3_15 ne9_15 ne11_15 ne13_15 F17 F18 F19 F20 ne19_20 F21 ne19_21 ne20_21 F23 F24 ne19_24 ne20_24 ne21_24 F25 p e ha hc hk s m _ below hf ((Spec.applies_iff_loose hf).mp happ).1 ⟨rfl, State.Warmed39.refl s, rfl⟩ trivial
  refine ⟨n, _, h1, h2, h3, hpost _ _ _ _ _ _ ⟨Cond.after_iff.mpr rfl, Cond.after_iff.mpr (eq_i res_at (Term.int_eval (1)) rfl), trivial⟩ ⟨hq.1, hq.2.1, (hq.2.2.sift fun y hy => Or.inr (N y hy)).mono (by decide) (by decide)⟩⟩
theorem main_1_1 : Claimed_1_1 := comes_1 fun _ _ _ _ _ _ h hF => ⟨h.1, hF⟩
theorem main_1_2 : Claimed_1_2 := comes_1 fun _ _ _ _ _ _ h hF => ⟨h.2.1, hF⟩
end Jvm.Pilot.@@N@@
namespace Jvm.Pilot.@@N@@
open Jvm Jvm.ClassFile Sem Op Lib Jvm.Free Jvm.Stand Jvm.Pilot.@@N@@.Jvm.D
/-! MADE BY PROGRAM (witnessworld.py) out of the Statement's table words and the real class files: 13 classes; the members and pool entries that the words name. The judged class is class 1, her method 3. -/
namespace start1
open Jvm.ClassFile
def u (s : String) : CpInfo := .utf8 (stringToUtf16 s)
/-- a pool by its gaps: so many unusable entries, then the entry; so many at the end -/
def gap : Nat → List CpInfo → List CpInfo
  | 0, r => r
  | n + 1, r => .unusable :: gap n r
def poolList (es : List (Nat × CpInfo)) (last : Nat) : List CpInfo := es.foldr (fun e r => gap e.1 (e.2 :: r)) (gap last [])
def pool (es : List (Nat × CpInfo)) (last : Nat) : Array CpInfo := ⟨poolList es last⟩
def fileOf (pool : Array CpInfo) (this : Nat) (attrs : Array Attribute := #[]) (ms : Array MethodInfo := #[]) (fl : Nat := 33) (sup : Nat := 0) (ifs : Array Nat := #[]) (fds : Array FieldInfo := #[]) : ClassFile where
  minorVersion := 0
  majorVersion := 65
  constantPool := pool
  accessFlags := fl
  thisClass := this
  superClass := sup
  interfaces := ifs
  fields := fds
  methods := ms
  attributes := attrs
def plain (name : String) (sup : Option ClassId) : Class where
  name := name
  kind := .ordinary
  loader := none
  accessFlags := 33
  super := sup
  interfaces := #[]
  cf := none
  fields := #[]
  methods := #[]
  instanceTypes := #[]
  staticTypes := #[]
  resolved := #[]
  callSites := []
  init := .initialized
  statics := none
  mirror := none

def pool0 : Array CpInfo := pool [(5, u "<init>"), (0, u "()V"), (1, .class_ 10), (1, u "java/lang/Object")] 113

def k0m0 : Method := { name := "<init>", desc := "()V", sig := { parameters := [], returnType := none }, accessFlags := 1, code := none }
/-- java/lang/Object -/
def k0 : Class := { plain "java/lang/Object" none with
  accessFlags := 33
  interfaces := #[]
  cf := some (fileOf pool0 8 #[] #[{ accessFlags := 1, nameIndex := 5, descriptorIndex := 6, attributes := #[] }] 33 0 #[] #[])
  fields := #[]
  methods := #[k0m0]
  instanceTypes := #[]
  staticTypes := #[]
  resolved := Array.replicate 124 none
  statics := none }

def pool1 : Array CpInfo := pool [(2, .class_ 4), (1, u "java/lang/Object"), (0, u "<init>"), (0, u "()V"), (0, .fieldref 8 9), (0, .class_ 10), (0, .nameAndType 11 12), (0, u "com/example/verdikt/verdikt/model/ExtendedDecision"), (0, u "PERMIT"), (0, u "Lcom/example/verdikt/verdikt/model/ExtendedDecision;"), (0, .fieldref 8 14), (0, .nameAndType 15 12), (0, u "DENY"), (0, .fieldref 8 17), (0, .nameAndType 18 12), (0, u "NOT_APPLICABLE"), (0, .fieldref 8 20), (0, .nameAndType 21 12), (0, u "INDETERMINATE_D"), (0, .fieldref 8 23), (0, .nameAndType 24 12), (0, u "INDETERMINATE_P"), (0, .fieldref 8 26), (0, .nameAndType 27 12), (0, u "INDETERMINATE_DP"), (0, .fieldref 29 30), (0, .class_ 31), (0, .nameAndType 11 32), (0, u "com/example/verdikt/verdikt/model/Decision"), (0, u "Lcom/example/verdikt/verdikt/model/Decision;"), (0, .fieldref 29 34), (0, .nameAndType 15 32), (0, .integer 2147483647), (0, .methodref 37 38), (0, .class_ 39), (0, .nameAndType 40 41), (0, u "com/example/verdikt/verdikt/model/ExtendedDecisionMirrorPinLaw"), (0, u "pick"), (0, u "(I)Lcom/example/verdikt/verdikt/model/ExtendedDecision;"), (0, .methodref 8 43), (0, .nameAndType 44 45), (0, u "mirror"), (0, u "()Lcom/example/verdikt/verdikt/model/ExtendedDecision;"), (0, .methodref 8 47), (0, .nameAndType 48 49), (0, u "decision"), (0, u "()Lcom/example/verdikt/verdikt/model/Decision;"), (0, .methodref 37 51), (0, .nameAndType 52 53), (0, u "swap"), (0, u "(Lcom/example/verdikt/verdikt/model/Decision;)Lcom/example/verdikt/verdikt/model/Decision;"), (3, u "law"), (0, u "(I)Z")] 2

def k1m0 : Method := { name := "<init>", desc := "()V", sig := { parameters := [], returnType := none }, accessFlags := 2, code := none }
def k1c1 : Code := { maxStack := 2, maxLocals := 1, code := method_2_code, exceptionTable := #[], attributes := #[] }
def k1m1 : Method := { name := "pick", desc := "(I)Lcom/example/verdikt/verdikt/model/ExtendedDecision;", sig := { parameters := [.int], returnType := some (.object "com/example/verdikt/verdikt/model/ExtendedDecision") }, accessFlags := 10, code := some k1c1 }
def k1c2 : Code := { maxStack := 2, maxLocals := 1, code := method_3_code, exceptionTable := #[], attributes := #[] }
def k1m2 : Method := { name := "swap", desc := "(Lcom/example/verdikt/verdikt/model/Decision;)Lcom/example/verdikt/verdikt/model/Decision;", sig := { parameters := [(.object "com/example/verdikt/verdikt/model/Decision")], returnType := some (.object "com/example/verdikt/verdikt/model/Decision") }, accessFlags := 10, code := some k1c2 }
def k1c3 : Code := { maxStack := 2, maxLocals := 8, code := code, exceptionTable := #[], attributes := #[] }
def k1m3 : Method := { name := "law", desc := "(I)Z", sig := { parameters := [.int], returnType := some .boolean }, accessFlags := 9, code := some k1c3 }
/-- com/example/verdikt/verdikt/model/ExtendedDecisionMirrorPinLaw -/
def k1 : Class := { plain "com/example/verdikt/verdikt/model/ExtendedDecisionMirrorPinLaw" (some 0) with
  accessFlags := 49
  interfaces := #[]
  cf := some (fileOf pool1 37 #[] #[{ accessFlags := 2, nameIndex := 5, descriptorIndex := 6, attributes := #[] }, { accessFlags := 10, nameIndex := 40, descriptorIndex := 41, attributes := #[] }, { accessFlags := 10, nameIndex := 52, descriptorIndex := 53, attributes := #[] }, { accessFlags := 9, nameIndex := 57, descriptorIndex := 58, attributes := #[] }] 49 2 #[] #[])
  fields := #[]
  methods := #[k1m0, k1m1, k1m2, k1m3]
  instanceTypes := #[]
  staticTypes := #[]
  resolved := Array.replicate 61 none
  statics := none }

def pool2 : Array CpInfo := pool [(1, .class_ 2), (0, u "java/lang/constant/Constable"), (0, .class_ 4), (0, u "java/lang/Object")] 6

/-- java/lang/constant/Constable -/
def k2 : Class := { plain "java/lang/constant/Constable" (some 0) with
  accessFlags := 1537
  interfaces := #[]
  cf := some (fileOf pool2 1 #[] #[] 1537 3 #[] #[])
  fields := #[]
  methods := #[]
  instanceTypes := #[]
  staticTypes := #[]
  resolved := Array.replicate 11 none
  statics := none }

def pool3 : Array CpInfo := pool [(1, .class_ 2), (0, u "java/lang/Comparable"), (0, .class_ 4), (0, u "java/lang/Object")] 7

/-- java/lang/Comparable -/
def k3 : Class := { plain "java/lang/Comparable" (some 0) with
  accessFlags := 1537
  interfaces := #[]
  cf := some (fileOf pool3 1 #[] #[] 1537 3 #[] #[])
  fields := #[]
  methods := #[]
  instanceTypes := #[]
  staticTypes := #[]
  resolved := Array.replicate 12 none
  statics := none }

def pool4 : Array CpInfo := pool [(1, .class_ 2), (0, u "java/io/Serializable"), (0, .class_ 4), (0, u "java/lang/Object")] 2

/-- java/io/Serializable -/
def k4 : Class := { plain "java/io/Serializable" (some 0) with
  accessFlags := 1537
  interfaces := #[]
  cf := some (fileOf pool4 1 #[] #[] 1537 3 #[] #[])
  fields := #[]
  methods := #[]
  instanceTypes := #[]
  staticTypes := #[]
  resolved := Array.replicate 7 none
  statics := none }

def pool5 : Array CpInfo := pool [(2, .class_ 4), (1, u "java/lang/Enum"), (0, u "name"), (0, u "Ljava/lang/String;"), (0, .fieldref 2 8), (0, .nameAndType 9 10), (0, u "ordinal"), (0, u "I"), (1, .class_ 14), (1, u "java/lang/Object"), (4, u "hash"), (86, .class_ 108), (1, u "java/lang/Enum$EnumDesc"), (2, .class_ 112), (0, u "java/lang/constant/Constable"), (0, .class_ 114), (0, u "java/lang/Comparable"), (0, .class_ 116), (0, u "java/io/Serializable"), (9, u "()I")] 77

def k5c0 : Code := { maxStack := 1, maxLocals := 1, code := jdk_37_method_2_code, exceptionTable := #[], attributes := #[] }
def k5m0 : Method := { name := "ordinal", desc := "()I", sig := { parameters := [], returnType := some .int }, accessFlags := 17, code := some k5c0 }
/-- java/lang/Enum -/
def k5 : Class := { plain "java/lang/Enum" (some 0) with
  accessFlags := 1057
  interfaces := #[2, 3, 4]
  cf := some (fileOf pool5 2 #[.nestMembers #[106]] #[{ accessFlags := 17, nameIndex := 9, descriptorIndex := 126, attributes := #[] }] 1057 12 #[111, 113, 115] #[{ accessFlags := 18, nameIndex := 5, descriptorIndex := 6, attributes := #[] }, { accessFlags := 18, nameIndex := 9, descriptorIndex := 10, attributes := #[] }, { accessFlags := 2, nameIndex := 19, descriptorIndex := 10, attributes := #[] }])
  fields := #[{ name := "name", type := (.object "java/lang/String"), accessFlags := 18, slot := 0, constantValue := 0 }, { name := "ordinal", type := .int, accessFlags := 18, slot := 1, constantValue := 0 }, { name := "hash", type := .int, accessFlags := 2, slot := 2, constantValue := 0 }]
  methods := #[k5m0]
  instanceTypes := #[(.object "java/lang/String"), .int, .int]
  staticTypes := #[]
  resolved := Array.replicate 204 none
  statics := none }

def pool6 : Array CpInfo := pool [(1, .class_ 2), (0, u "com/example/verdikt/verdikt/model/ExtendedDecision"), (0, .fieldref 1 4), (0, .nameAndType 5 6), (0, u "PERMIT"), (0, u "Lcom/example/verdikt/verdikt/model/ExtendedDecision;"), (0, .fieldref 1 8), (0, .nameAndType 9 6), (0, u "DENY"), (2, u "NOT_APPLICABLE"), (0, .fieldref 1 14), (0, .nameAndType 15 6), (0, u "INDETERMINATE_D"), (0, .fieldref 1 17), (0, .nameAndType 18 6), (0, u "INDETERMINATE_P"), (2, u "INDETERMINATE_DP"), (2, u "$VALUES"), (0, u "[Lcom/example/verdikt/verdikt/model/ExtendedDecision;"), (6, .class_ 34), (1, u "java/lang/Enum"), (6, .fieldref 1 42), (0, .nameAndType 43 44), (0, u "decision"), (0, u "Lcom/example/verdikt/verdikt/model/Decision;"), (0, .methodref 1 46), (0, .nameAndType 47 48), (0, u "ordinal"), (0, u "()I"), (31, u "()Lcom/example/verdikt/verdikt/model/Decision;"), (0, u "mirror"), (0, u "()Lcom/example/verdikt/verdikt/model/ExtendedDecision;")] 6

def k6c0 : Code := { maxStack := 1, maxLocals := 1, code := prog_41_method_4_code, exceptionTable := #[], attributes := #[] }
def k6m0 : Method := { name := "decision", desc := "()Lcom/example/verdikt/verdikt/model/Decision;", sig := { parameters := [], returnType := some (.object "com/example/verdikt/verdikt/model/Decision") }, accessFlags := 0, code := some k6c0 }
def k6c1 : Code := { maxStack := 1, maxLocals := 2, code := prog_41_method_5_code, exceptionTable := #[], attributes := #[] }
def k6m1 : Method := { name := "mirror", desc := "()Lcom/example/verdikt/verdikt/model/ExtendedDecision;", sig := { parameters := [], returnType := some (.object "com/example/verdikt/verdikt/model/ExtendedDecision") }, accessFlags := 0, code := some k6c1 }
/-- com/example/verdikt/verdikt/model/ExtendedDecision -/
def k6 : Class := { plain "com/example/verdikt/verdikt/model/ExtendedDecision" (some 5) with
  accessFlags := 16432
  interfaces := #[]
  cf := some (fileOf pool6 1 #[] #[{ accessFlags := 0, nameIndex := 43, descriptorIndex := 80, attributes := #[] }, { accessFlags := 0, nameIndex := 81, descriptorIndex := 82, attributes := #[] }] 16432 32 #[] #[{ accessFlags := 16409, nameIndex := 5, descriptorIndex := 6, attributes := #[] }, { accessFlags := 16409, nameIndex := 9, descriptorIndex := 6, attributes := #[] }, { accessFlags := 16409, nameIndex := 12, descriptorIndex := 6, attributes := #[] }, { accessFlags := 16409, nameIndex := 15, descriptorIndex := 6, attributes := #[] }, { accessFlags := 16409, nameIndex := 18, descriptorIndex := 6, attributes := #[] }, { accessFlags := 16409, nameIndex := 21, descriptorIndex := 6, attributes := #[] }, { accessFlags := 18, nameIndex := 43, descriptorIndex := 44, attributes := #[] }, { accessFlags := 4122, nameIndex := 24, descriptorIndex := 25, attributes := #[] }])
  fields := #[{ name := "PERMIT", type := (.object "com/example/verdikt/verdikt/model/ExtendedDecision"), accessFlags := 16409, slot := 0, constantValue := 0 }, { name := "DENY", type := (.object "com/example/verdikt/verdikt/model/ExtendedDecision"), accessFlags := 16409, slot := 1, constantValue := 0 }, { name := "NOT_APPLICABLE", type := (.object "com/example/verdikt/verdikt/model/ExtendedDecision"), accessFlags := 16409, slot := 2, constantValue := 0 }, { name := "INDETERMINATE_D", type := (.object "com/example/verdikt/verdikt/model/ExtendedDecision"), accessFlags := 16409, slot := 3, constantValue := 0 }, { name := "INDETERMINATE_P", type := (.object "com/example/verdikt/verdikt/model/ExtendedDecision"), accessFlags := 16409, slot := 4, constantValue := 0 }, { name := "INDETERMINATE_DP", type := (.object "com/example/verdikt/verdikt/model/ExtendedDecision"), accessFlags := 16409, slot := 5, constantValue := 0 }, { name := "decision", type := (.object "com/example/verdikt/verdikt/model/Decision"), accessFlags := 18, slot := 3, constantValue := 0 }, { name := "$VALUES", type := (.array (.object "com/example/verdikt/verdikt/model/ExtendedDecision")), accessFlags := 4122, slot := 6, constantValue := 0 }]
  methods := #[k6m0, k6m1]
  instanceTypes := #[(.object "java/lang/String"), .int, .int, (.object "com/example/verdikt/verdikt/model/Decision")]
  staticTypes := #[(.object "com/example/verdikt/verdikt/model/ExtendedDecision"), (.object "com/example/verdikt/verdikt/model/ExtendedDecision"), (.object "com/example/verdikt/verdikt/model/ExtendedDecision"), (.object "com/example/verdikt/verdikt/model/ExtendedDecision"), (.object "com/example/verdikt/verdikt/model/ExtendedDecision"), (.object "com/example/verdikt/verdikt/model/ExtendedDecision"), (.array (.object "com/example/verdikt/verdikt/model/ExtendedDecision"))]
  resolved := Array.replicate 89 none
  statics := some 0 }

def pool7 : Array CpInfo := pool [(1, .class_ 2), (0, u "com/example/verdikt/verdikt/model/Decision"), (2, u "PERMIT"), (0, u "Lcom/example/verdikt/verdikt/model/Decision;"), (2, u "DENY"), (2, u "NOT_APPLICABLE"), (2, u "INDETERMINATE"), (2, u "$VALUES"), (0, u "[Lcom/example/verdikt/verdikt/model/Decision;"), (6, .class_ 28), (1, u "java/lang/Enum"), (8, u "xacmlName"), (0, u "Ljava/lang/String;")] 69

/-- com/example/verdikt/verdikt/model/Decision -/
def k7 : Class := { plain "com/example/verdikt/verdikt/model/Decision" (some 5) with
  accessFlags := 16433
  interfaces := #[]
  cf := some (fileOf pool7 1 #[] #[] 16433 26 #[] #[{ accessFlags := 16409, nameIndex := 5, descriptorIndex := 6, attributes := #[] }, { accessFlags := 16409, nameIndex := 9, descriptorIndex := 6, attributes := #[] }, { accessFlags := 16409, nameIndex := 12, descriptorIndex := 6, attributes := #[] }, { accessFlags := 16409, nameIndex := 15, descriptorIndex := 6, attributes := #[] }, { accessFlags := 18, nameIndex := 37, descriptorIndex := 38, attributes := #[] }, { accessFlags := 4122, nameIndex := 18, descriptorIndex := 19, attributes := #[] }])
  fields := #[{ name := "PERMIT", type := (.object "com/example/verdikt/verdikt/model/Decision"), accessFlags := 16409, slot := 0, constantValue := 0 }, { name := "DENY", type := (.object "com/example/verdikt/verdikt/model/Decision"), accessFlags := 16409, slot := 1, constantValue := 0 }, { name := "NOT_APPLICABLE", type := (.object "com/example/verdikt/verdikt/model/Decision"), accessFlags := 16409, slot := 2, constantValue := 0 }, { name := "INDETERMINATE", type := (.object "com/example/verdikt/verdikt/model/Decision"), accessFlags := 16409, slot := 3, constantValue := 0 }, { name := "xacmlName", type := (.object "java/lang/String"), accessFlags := 18, slot := 3, constantValue := 0 }, { name := "$VALUES", type := (.array (.object "com/example/verdikt/verdikt/model/Decision")), accessFlags := 4122, slot := 4, constantValue := 0 }]
  methods := #[]
  instanceTypes := #[(.object "java/lang/String"), .int, .int, (.object "java/lang/String")]
  staticTypes := #[(.object "com/example/verdikt/verdikt/model/Decision"), (.object "com/example/verdikt/verdikt/model/Decision"), (.object "com/example/verdikt/verdikt/model/Decision"), (.object "com/example/verdikt/verdikt/model/Decision"), (.array (.object "com/example/verdikt/verdikt/model/Decision"))]
  resolved := Array.replicate 108 none
  statics := some 1 }

def pool8 : Array CpInfo := pool [(1, u "java/lang/Cloneable"), (0, .class_ 1), (0, u "java/lang/Object"), (0, .class_ 3)] 3

/-- java/lang/Cloneable -/
def k8 : Class := { plain "java/lang/Cloneable" (some 0) with
  accessFlags := 1537
  interfaces := #[]
  cf := some (fileOf pool8 2 #[] #[] 1537 4 #[] #[])
  fields := #[]
  methods := #[]
  instanceTypes := #[]
  staticTypes := #[]
  resolved := Array.replicate 8 none
  statics := none }

/-- the primitive byte -/
def k9 : Class := { plain "byte" none with kind := .primitive 'B', accessFlags := 0x411 }
/-- [B -/
def k10 : Class := { plain "[B" (some 0) with kind := .array 9 .byte, interfaces := #[8, 4], accessFlags := 1041 }

/-- the primitive int -/
def k11 : Class := { plain "int" none with kind := .primitive 'I', accessFlags := 0x411 }
/-- [I -/
def k12 : Class := { plain "[I" (some 0) with kind := .array 11 .int, interfaces := #[8, 4], accessFlags := 1041 }

def heap : Heap := #[{ cls := 6, slots := #[.ref 2, .ref 3, .ref 6, .ref 8, .ref 9, .ref 7, .null], vm := .statics 6 },
  { cls := 7, slots := #[.ref 5, .ref 4, .ref 11, .ref 10, .null], vm := .statics 7 },
  { cls := 6, slots := #[.null, .int 0, .int 0, .ref 5], vm := .none },
  { cls := 6, slots := #[.null, .int 1, .int 0, .ref 4], vm := .none },
  { cls := 7, slots := #[.null, .int 1, .int 0, .null], vm := .none },
  { cls := 7, slots := #[.null, .int 0, .int 0, .null], vm := .none },
  { cls := 6, slots := #[.null, .int 2, .int 0, .ref 11], vm := .none },
  { cls := 6, slots := #[.null, .int 5, .int 0, .ref 10], vm := .none },
  { cls := 6, slots := #[.null, .int 3, .int 0, .ref 10], vm := .none },
  { cls := 6, slots := #[.null, .int 4, .int 0, .ref 10], vm := .none },
  { cls := 7, slots := #[.null, .int 3, .int 0, .null], vm := .none },
  { cls := 7, slots := #[.null, .int 2, .int 0, .null], vm := .none }]
def classes : Array Class := #[k0, k1, k2, k3, k4, k5, k6, k7, k8, k9, k10, k11, k12]
def interned : List (Array UInt16 × Addr) := []
def slotsUsed : Nat := 52
def theMethod : MethodId := ⟨1, 3⟩
def args0 : Array Value := #[.int 7]
def aboutOver (below : List Frame) : State where
  vm := { classes := classes, interned := interned.toArray }
  heap := heap
  slotsUsed := slotsUsed
  threads := #[{ frames := .invoking theMethod args0 :: below }]
def below0 : List Frame := [.native { method := ⟨0, 0⟩, args := #[] }]
def about1 : State := aboutOver below0
def p0 : Program := .bare "" "" ""
def e0 : Env := launch0.env 0 0 0
theorem w_frames : about1.frames = Frame.invoking theMethod args0 :: below0 := rfl
set_option maxRecDepth 65536 in
theorem w_args : argsFit about1.vm theMethod args0 = true := by decide +kernel
set_option maxRecDepth 65536 in
theorem w_heap : heapFits about1 = true := by decide +kernel
set_option maxRecDepth 65536 in
theorem w_runnable : about1.curStatus? = some .runnable := by decide +kernel
set_option maxRecDepth 65536 in
theorem w_alone : about1.alone = true := by decide +kernel
set_option maxRecDepth 65536 in
theorem w_named : about1.methodNamed? x = some theMethod := by decide +kernel
set_option maxRecDepth 65536 in
theorem w_hears : about1.hears theMethod below0 = true := by decide +kernel
set_option maxRecDepth 65536 in
theorem w_ripe : about1.ripe theMethod args0 below0 = true := by decide +kernel
theorem w_running : about1.status = .running := rfl
set_option maxRecDepth 65536 in
theorem w_room : about1.hasRoom e0.platform room_1 = true :=
  launch0.hasRoom_least _ room_1 (by decide +kernel) (by decide +kernel) (by decide +kernel) (by decide +kernel) (by decide +kernel) (by decide +kernel)
theorem allAtoms_all (ts : List Jvm.Cond) (a : Array Jvm.Value) (st : Jvm.State) : (allAtoms ts).before a st = ts.all (fun c => c.before a st) := by
  induction ts with
  | nil => rfl
  | cons c t ih =>
    show (Jvm.Cond.and c (allAtoms t)).before a st = _
    rw [Jvm.Cond.before_and, ih, List.all_cons]
def words1 : List Jvm.Cond := Jvm.Cond.code x code maxLocals ret :: tables_1
/-- a 'code' word, met by the world's own term for the bytes: nothing is compared byte by byte -/
theorem code_word {y : MethodName} {bytes : ByteArray} {mx : Nat} {rt : Option FieldType} {a : Array Value} {s : State} {m : MethodId} {meth : Method} {c : Code} (h1 : s.methodNamed? y = some m) (h2 : s.vm.method? m = some meth) (h3 : meth.code = some c) (h4 : c.code = bytes)
    (h5 : (c.maxLocals == mx && c.exceptionTable.isEmpty && decide (c.maxStack ≤ mostOperands) && decide (meth.sig.returnType = rt) && !meth.locks && decide (parseMethodDescriptor y.desc = some meth.sig)) = true) : (Jvm.Cond.code y bytes mx rt).before a s = true := by
  simp only [Bool.and_eq_true, beq_iff_eq, Bool.not_eq_true', decide_eq_true_eq] at h5
  obtain ⟨⟨⟨⟨⟨g1, g2⟩, g3⟩, g4⟩, g5⟩, g6⟩ := h5
  simp [Cond.before, Cond.holds, Cond.value, h1, h2, h3, h4, g1, g2, g3, g4, g5, g6]
def isCode : Jvm.Cond → Bool
  | .code _ _ _ _ => true
  | _ => false
theorem all_split {L : List Jvm.Cond} {P : Jvm.Cond → Bool} (h1 : L.all (fun c => isCode c || P c) = true) (h2 : ∀ c ∈ L.filter isCode, P c = true) : L.all P = true := by
  refine List.all_eq_true.mpr fun c hc => ?_
  have h := List.all_eq_true.mp h1 c hc
  rcases Bool.eq_false_or_eq_true (isCode c) with hi | hi
  · exact h2 c (List.mem_filter.mpr ⟨hc, hi⟩)
  · simpa [hi] using h
set_option maxRecDepth 65536 in
theorem w_c0 : (Jvm.Cond.code x code maxLocals ret).before args0 about1 = true := code_word (m := ⟨1, 3⟩) (meth := k1m3) (c := k1c3) (by decide +kernel) rfl rfl rfl (by decide +kernel)
set_option maxRecDepth 65536 in
theorem w_c1 : (Jvm.Cond.code ({ cls := "com/example/verdikt/verdikt/model/ExtendedDecisionMirrorPinLaw", name := "pick", desc := "(I)Lcom/example/verdikt/verdikt/model/ExtendedDecision;" } : Jvm.MethodName) method_2_code (1 : Nat) (Option.some (Jvm.ClassFile.FieldType.object "com/example/verdikt/verdikt/model/ExtendedDecision"))).before args0 about1 = true := code_word (m := ⟨1, 1⟩) (meth := k1m1) (c := k1c1) (by decide +kernel) rfl rfl rfl (by decide +kernel)
set_option maxRecDepth 65536 in
theorem w_c2 : (Jvm.Cond.code ({ cls := "com/example/verdikt/verdikt/model/ExtendedDecision", name := "mirror", desc := "()Lcom/example/verdikt/verdikt/model/ExtendedDecision;" } : Jvm.MethodName) prog_41_method_5_code (2 : Nat) (Option.some (Jvm.ClassFile.FieldType.object "com/example/verdikt/verdikt/model/ExtendedDecision"))).before args0 about1 = true := code_word (m := ⟨6, 1⟩) (meth := k6m1) (c := k6c1) (by decide +kernel) rfl rfl rfl (by decide +kernel)
set_option maxRecDepth 65536 in
theorem w_c3 : (Jvm.Cond.code ({ cls := "java/lang/Enum", name := "ordinal", desc := "()I" } : Jvm.MethodName) jdk_37_method_2_code (1 : Nat) (Option.some Jvm.ClassFile.FieldType.int)).before args0 about1 = true := code_word (m := ⟨5, 0⟩) (meth := k5m0) (c := k5c0) (by decide +kernel) rfl rfl rfl (by decide +kernel)
set_option maxRecDepth 65536 in
theorem w_c4 : (Jvm.Cond.code ({ cls := "com/example/verdikt/verdikt/model/ExtendedDecision", name := "decision", desc := "()Lcom/example/verdikt/verdikt/model/Decision;" } : Jvm.MethodName) prog_41_method_4_code (1 : Nat) (Option.some (Jvm.ClassFile.FieldType.object "com/example/verdikt/verdikt/model/Decision"))).before args0 about1 = true := code_word (m := ⟨6, 0⟩) (meth := k6m0) (c := k6c0) (by decide +kernel) rfl rfl rfl (by decide +kernel)
set_option maxRecDepth 65536 in
theorem w_c5 : (Jvm.Cond.code ({ cls := "com/example/verdikt/verdikt/model/ExtendedDecisionMirrorPinLaw", name := "swap", desc := "(Lcom/example/verdikt/verdikt/model/Decision;)Lcom/example/verdikt/verdikt/model/Decision;" } : Jvm.MethodName) method_3_code (1 : Nat) (Option.some (Jvm.ClassFile.FieldType.object "com/example/verdikt/verdikt/model/Decision"))).before args0 about1 = true := code_word (m := ⟨1, 2⟩) (meth := k1m2) (c := k1c2) (by decide +kernel) rfl rfl rfl (by decide +kernel)
def codes1 : List Jvm.Cond := [Jvm.Cond.code x code maxLocals ret, Jvm.Cond.code ({ cls := "com/example/verdikt/verdikt/model/ExtendedDecisionMirrorPinLaw", name := "pick", desc := "(I)Lcom/example/verdikt/verdikt/model/ExtendedDecision;" } : Jvm.MethodName) method_2_code (1 : Nat) (Option.some (Jvm.ClassFile.FieldType.object "com/example/verdikt/verdikt/model/ExtendedDecision")), Jvm.Cond.code ({ cls := "com/example/verdikt/verdikt/model/ExtendedDecision", name := "mirror", desc := "()Lcom/example/verdikt/verdikt/model/ExtendedDecision;" } : Jvm.MethodName) prog_41_method_5_code (2 : Nat) (Option.some (Jvm.ClassFile.FieldType.object "com/example/verdikt/verdikt/model/ExtendedDecision")), Jvm.Cond.code ({ cls := "java/lang/Enum", name := "ordinal", desc := "()I" } : Jvm.MethodName) jdk_37_method_2_code (1 : Nat) (Option.some Jvm.ClassFile.FieldType.int), Jvm.Cond.code ({ cls := "com/example/verdikt/verdikt/model/ExtendedDecision", name := "decision", desc := "()Lcom/example/verdikt/verdikt/model/Decision;" } : Jvm.MethodName) prog_41_method_4_code (1 : Nat) (Option.some (Jvm.ClassFile.FieldType.object "com/example/verdikt/verdikt/model/Decision")), Jvm.Cond.code ({ cls := "com/example/verdikt/verdikt/model/ExtendedDecisionMirrorPinLaw", name := "swap", desc := "(Lcom/example/verdikt/verdikt/model/Decision;)Lcom/example/verdikt/verdikt/model/Decision;" } : Jvm.MethodName) method_3_code (1 : Nat) (Option.some (Jvm.ClassFile.FieldType.object "com/example/verdikt/verdikt/model/Decision"))]
set_option maxRecDepth 65536 in
theorem codes_eq : words1.filter isCode = codes1 := rfl
theorem w_codes : ∀ c ∈ words1.filter isCode, c.before args0 about1 = true := by
  rw [codes_eq]
  intro c hc
  simp only [codes1, List.mem_cons, List.not_mem_nil, or_false] at hc
  rcases hc with rfl | rfl | rfl | rfl | rfl | rfl
  · exact w_c0
  · exact w_c1
  · exact w_c2
  · exact w_c3
  · exact w_c4
  · exact w_c5
set_option maxRecDepth 65536 in
theorem w_t1 : (words1.take 24).all (fun c => isCode c || c.before args0 about1) = true := by decide +kernel
set_option maxRecDepth 65536 in
theorem w_t2 : ((words1.drop 24).take 24).all (fun c => isCode c || c.before args0 about1) = true := by decide +kernel
set_option maxRecDepth 65536 in
theorem w_t3 : ((words1.drop 24).drop 24).all (fun c => isCode c || c.before args0 about1) = true := by decide +kernel
theorem w_tables : (allAtoms (Jvm.Cond.code x code maxLocals ret :: tables_1)).before args0 about1 = true := by
  rw [allAtoms_all]
  show words1.all (fun c => c.before args0 about1) = true
  refine all_split ?_ w_codes
  rw [← List.take_append_drop 24 words1, List.all_append, w_t1, ← List.take_append_drop 24 (words1.drop 24), List.all_append, w_t2, w_t3]
  rfl
set_option maxRecDepth 65536 in
theorem w_case : (Jvm.Cond.and given_1 narrow_1).before args0 about1 = true := by decide +kernel
theorem w_applies : (headSpec (Jvm.Cond.code x code maxLocals ret :: tables_1) room_1).applies x e0.platform about1 = true :=
  (Spec.applies_iff w_frames).mpr ⟨w_running, w_runnable, w_alone, w_named, w_hears, w_ripe, w_room, w_tables⟩
theorem atStart : AtStart classFile x code maxLocals ret World_1 tables_1 room_1 Calls_1 rest_1 Pre_1 launch0 p0 e0 about1 theMethod args0 below0 :=
  ⟨lists_1, trivial, launch0.admits_env _ _ _, launch0.least_env, fairChoices_fair.cas, fairChoices_fair.clock, w_frames, w_args, w_heap, w_applies, trivial, trivial, w_case⟩
end start1
theorem witness_1 : WitnessClaimed_1 := ⟨start1.p0, start1.e0, start1.about1, start1.theMethod, start1.args0, start1.below0, start1.atStart⟩
end Jvm.Pilot.@@N@@
