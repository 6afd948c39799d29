import JvmDerived
import JvmDerived.Pilot.@@N@@Statement
import JvmDerived.Pilot.@@N@@Code
set_option linter.unusedVariables false
set_option linter.unusedSimpArgs false
namespace Jvm.RoadKit
open Sem ClassFile Op Lib Jvm.Stand Jvm.Free Jvm.LawKit
section New
variable {p : Program} {l : Launch} {e : Env} {R : Room} {s : State} {m : MethodId} {args : Array Value} {below : List Frame} {meth : Method} {c : Code} {T : State} {locs : List Loc} {cells slots : Nat}
theorem retI (X : Stand p l e R s m args below meth c T locs cells slots) (hx : p.tables.exec = Jvm.exec) {pc : Nat} {Ls : Array Slot} {z : Int32} {rest : List Value} (hret : meth.sig.returnType = some .int) (hd : decode c.code pc = .ok (.ireturn, 1)) {fs : List Frame}
    (hl : ∀ (f : JFrame) (acts : List Action), f.method = m → f.locked = none → f.entered = [] → (doReturn e (T.setTop f) acts (some (.int z))).1 = T.setFrames fs) : Steps p.tables e below (T.setTop (mkF m pc Ls (.int z :: rest))) (T.setFrames fs) := by
  have hm' : T.vm.method? m = some meth := X.method'
  have hn : narrow .int (.int z) = .int z := rfl
  show Steps p.tables e below (T.setTop { method := m, pc := pc, locals := Ls, stack := _ :: rest, locked := none }) _
  jvm_step X.here [X.here.top, hx, hd, hm', hret, hn]
  first | (intro acts; rw [hl _ acts rfl rfl rfl]) | rw [hl _ _ rfl rfl rfl]
  exact Steps.refl _
end New
end Jvm.RoadKit
namespace Jvm.Pilot.@@N@@
open Jvm Jvm.ClassFile Sem Op Lib Jvm.Free Jvm.Stand Jvm.LawKit Jvm.RoadKit Bundle Jvm.Pilot.@@N@@.Jvm.D
def f1 (p1 : Int32) (s0_EX : Addr) (s1_AF : Addr) (s2_EF : Addr) (s3_EG : Addr) (s4_EU : Addr) (s5_AU : Addr) (s6_AX : Addr) (s7_AG : Addr) : Addr := (if p1 = (0 : Int32) then s0_EX else (if p1 = (1 : Int32) then s6_AX else (if p1 = (2 : Int32) then s2_EF else (if p1 = (3 : Int32) then s1_AF else (if p1 = (4 : Int32) then s3_EG else (if p1 = (5 : Int32) then s7_AG else (if p1 = (6 : Int32) then s4_EU else s5_AU)))))))
def f2 (a1 : Addr) (s0_EX : Addr) (s1_AF : Addr) (s2_EF : Addr) (s3_EG : Addr) (s4_EU : Addr) (s5_AU : Addr) (s6_AX : Addr) (s7_AG : Addr) : Int32 := (if a1 = s0_EX then (1 : Int32) else (if a1 = s2_EF then (1 : Int32) else (if a1 = s3_EG then (1 : Int32) else (if a1 = s4_EU then (1 : Int32) else (0 : Int32)))))
theorem own_m7 (p : Int32) : p &&& 7 = 0 ∨ p &&& 7 = 1 ∨ p &&& 7 = 2 ∨ p &&& 7 = 3 ∨ p &&& 7 = 4 ∨ p &&& 7 = 5 ∨ p &&& 7 = 6 ∨ p &&& 7 = 7 := by
  have h1 : (p &&& (7 : Int32)).toBitVec.toNat = p.toBitVec.toNat % 8 := by
    show (p.toBitVec &&& (7 : Int32).toBitVec).toNat = _
    rw [BitVec.toNat_and, show (7 : Int32).toBitVec.toNat = 2 ^ 3 - 1 from by decide, Nat.and_two_pow_sub_one_eq_mod]
  have h2 : (p &&& (7 : Int32)).toInt = (p.toBitVec.toNat % 8 : Nat) := by
    show (p &&& (7 : Int32)).toBitVec.toInt = _
    rw [BitVec.toInt_eq_toNat_cond, h1, if_pos (by omega)]
  have h3 : p.toBitVec.toNat % 8 < 8 := Nat.mod_lt _ (by decide)
  simp only [← Int32.toInt_inj, h2, show (0 : Int32).toInt = 0 from by decide, show (1 : Int32).toInt = 1 from by decide, show (2 : Int32).toInt = 2 from by decide, show (3 : Int32).toInt = 3 from by decide, show (4 : Int32).toInt = 4 from by decide, show (5 : Int32).toInt = 5 from by decide, show (6 : Int32).toInt = 6 from by decide, show (7 : Int32).toInt = 7 from by decide]
  omega

abbrev own_G (tb : Tables) (e : Env) (below : List Frame) (Q : Outcome → State → Prop) (A : State) : Prop := ∃ s₂ o, Steps tb e below A s₂ ∧ s₂.status = .running ∧ Ended s₂ below o ∧ Q o s₂
theorem own_step {tb : Tables} {e : Env} {below : List Frame} {Q : Outcome → State → Prop} {A B : State} (h : ∀ t, Steps tb e below B t → Steps tb e below A t) (g : own_G tb e below Q B) : own_G tb e below Q A := by
  obtain ⟨s2, o, h1, h2⟩ := g
  exact ⟨s2, o, h _ h1, h2⟩
theorem own_aT {x y : Addr} (h : x = y) : XT.acmp .eq (.ref x) (.ref y) = true ∧ XT.acmp .ne (.ref x) (.ref y) = false := by subst h; exact ⟨by simp [XT.acmp], by simp [XT.acmp]⟩
theorem own_aF {x y : Addr} (h : ¬ x = y) : XT.acmp .eq (.ref x) (.ref y) = false ∧ XT.acmp .ne (.ref x) (.ref y) = true := by simp [XT.acmp, h]
theorem own_cl (x y : Int64) : XT.cmpL x y < 0 ↔ x < y := lw_lt x y
theorem own_cg (x y : Int64) : 0 < XT.cmpL x y ↔ y < x := lw_gt x y
theorem own_ce (x y : Int64) : XT.cmpL x y = 0 ↔ x = y := lw_eq x y
theorem own_fint {args : Array Value} {s : State} {t : Term} {C n d : String} {x : Addr} {k : Int32} (ht : t.eval args s none [] s = some (.ref x)) (h : (Jvm.Cond.eq (.field t C n d) (.int k)).value args s none s [] = some true) : s.fieldOf? x C n d = some (.int k) := by
  obtain ⟨a, b, ha, hb, k1, k2⟩ := cmp_v (Or.inl h)
  cases (Term.int_eval k (args := args) (first := s) (o := none) (idx := []) (s := s)).symm.trans hb
  obtain ⟨z, rfl⟩ := k2
  have e := gotT (Cond.eq_ints ha hb) h
  subst e
  rw [← fld_at ht]; exact ha
theorem own_fref {args : Array Value} {s : State} {t u : Term} {C n d : String} {x y : Addr} (ht : t.eval args s none [] s = some (.ref x)) (hu : u.eval args s none [] s = some (.ref y)) (h : (Jvm.Cond.eq (.field t C n d) u).value args s none s [] = some true) : s.fieldOf? x C n d = some (.ref y) := by
  obtain ⟨a, b, ha, hb, k1, k2⟩ := cmp_v (Or.inl h)
  cases hu.symm.trans hb
  have e := gotT (eq_R ha hb k2.2 rfl) h
  subst e
  rw [← fld_at ht]; exact ha
theorem own_fne {s : State} {C n d : String} {x y : Addr} {a b : Int32} (h1 : s.fieldOf? x C n d = some (.int a)) (h2 : s.fieldOf? y C n d = some (.int b)) (h : a ≠ b) : x ≠ y := by
  rintro rfl
  rw [h1] at h2
  cases h2
  exact h rfl
theorem pd_0 : parseMethodDescriptor "(I)Lcom/example/bonn/bonn/Formula$Operator;" = some ⟨[.int], some (.object "com/example/bonn/bonn/Formula$Operator")⟩ := by decide +kernel
theorem pd_1 : parseMethodDescriptor "()Z" = some ⟨[], some .boolean⟩ := by decide +kernel
theorem d1_0 : decode method_2_code 0 = .ok (.iload_n 0, 1) := by decide +kernel
theorem d1_1 : decode method_2_code 1 = .ok (.ifCond .ne 7, 3) := by decide +kernel
theorem d1_4 : decode method_2_code 4 = .ok (.getstatic 7, 3) := by decide +kernel
theorem d1_7 : decode method_2_code 7 = .ok (.areturn, 1) := by decide +kernel
theorem d1_8 : decode method_2_code 8 = .ok (.iload_n 0, 1) := by decide +kernel
theorem d1_9 : decode method_2_code 9 = .ok (.iconst 1, 1) := by decide +kernel
theorem d1_10 : decode method_2_code 10 = .ok (.if_icmp .ne 7, 3) := by decide +kernel
theorem d1_13 : decode method_2_code 13 = .ok (.getstatic 13, 3) := by decide +kernel
theorem d1_16 : decode method_2_code 16 = .ok (.areturn, 1) := by decide +kernel
theorem d1_17 : decode method_2_code 17 = .ok (.iload_n 0, 1) := by decide +kernel
theorem d1_18 : decode method_2_code 18 = .ok (.iconst 2, 1) := by decide +kernel
theorem d1_19 : decode method_2_code 19 = .ok (.if_icmp .ne 7, 3) := by decide +kernel
theorem d1_22 : decode method_2_code 22 = .ok (.getstatic 16, 3) := by decide +kernel
theorem d1_25 : decode method_2_code 25 = .ok (.areturn, 1) := by decide +kernel
theorem d1_26 : decode method_2_code 26 = .ok (.iload_n 0, 1) := by decide +kernel
theorem d1_27 : decode method_2_code 27 = .ok (.iconst 3, 1) := by decide +kernel
theorem d1_28 : decode method_2_code 28 = .ok (.if_icmp .ne 7, 3) := by decide +kernel
theorem d1_31 : decode method_2_code 31 = .ok (.getstatic 19, 3) := by decide +kernel
theorem d1_34 : decode method_2_code 34 = .ok (.areturn, 1) := by decide +kernel
theorem d1_35 : decode method_2_code 35 = .ok (.iload_n 0, 1) := by decide +kernel
theorem d1_36 : decode method_2_code 36 = .ok (.iconst 4, 1) := by decide +kernel
theorem d1_37 : decode method_2_code 37 = .ok (.if_icmp .ne 7, 3) := by decide +kernel
theorem d1_40 : decode method_2_code 40 = .ok (.getstatic 22, 3) := by decide +kernel
theorem d1_43 : decode method_2_code 43 = .ok (.areturn, 1) := by decide +kernel
theorem d1_44 : decode method_2_code 44 = .ok (.iload_n 0, 1) := by decide +kernel
theorem d1_45 : decode method_2_code 45 = .ok (.iconst 5, 1) := by decide +kernel
theorem d1_46 : decode method_2_code 46 = .ok (.if_icmp .ne 7, 3) := by decide +kernel
theorem d1_49 : decode method_2_code 49 = .ok (.getstatic 25, 3) := by decide +kernel
theorem d1_52 : decode method_2_code 52 = .ok (.areturn, 1) := by decide +kernel
theorem d1_53 : decode method_2_code 53 = .ok (.iload_n 0, 1) := by decide +kernel
theorem d1_54 : decode method_2_code 54 = .ok (.bipush 6, 2) := by decide +kernel
theorem d1_56 : decode method_2_code 56 = .ok (.if_icmp .ne 7, 3) := by decide +kernel
theorem d1_59 : decode method_2_code 59 = .ok (.getstatic 28, 3) := by decide +kernel
theorem d1_62 : decode method_2_code 62 = .ok (.areturn, 1) := by decide +kernel
theorem d1_63 : decode method_2_code 63 = .ok (.getstatic 31, 3) := by decide +kernel
theorem d1_66 : decode method_2_code 66 = .ok (.areturn, 1) := by decide +kernel
theorem pn_1 : plainName "com/example/bonn/bonn/OperatorIsExistentialPinLaw" = true := by first | (simp [plainName, overriddenIn]; done) | decide +kernel
theorem ef_1 (m : MethodId) (p1 : Int32) : entryFrame m #[(.int p1)] 1 = mkF m 0 #[.val (.int p1)] [] := by first | (simp [entryFrame, mkF, argsToLocals, Value.category]; done) | rfl
def Q1 (Z : State) (p1 : Int32) (s0_EX : Addr) (s1_AF : Addr) (s2_EF : Addr) (s3_EG : Addr) (s4_EU : Addr) (s5_AU : Addr) (s6_AX : Addr) (s7_AG : Addr) (h0 : Heap) (n0 : Nat) (v : Option Value) (h : Heap) (L : List Loc) : Prop := v = some (.ref (f1 p1 s0_EX s1_AF s2_EF s3_EG s4_EU s5_AU s6_AX s7_AG)) ∧ Fr n0 L ∧ h = h0
set_option maxRecDepth 65536 in
set_option maxHeartbeats 40000000 in
theorem rm1 (l : Launch) (Z : State) (a0 : Array Value) (hw : ∀ d ∈ tables_1, d.before a0 Z = true) (ws : List Jvm.Cond) (p1 : Int32) (s0_EX : Addr) (s1_AF : Addr) (s2_EF : Addr) (s3_EG : Addr) (s4_EU : Addr) (s5_AU : Addr) (s6_AX : Addr) (s7_AG : Addr) (h0 : Heap) (n0 : Nat) (Z0 : n0 ≤ h0.size) (S_Formula_Operator_EX : Sta Z h0 "com/example/bonn/bonn/Formula$Operator" "EX" "Lcom/example/bonn/bonn/Formula$Operator;" (.ref s0_EX)) (S_Formula_Operator_AF : Sta Z h0 "com/example/bonn/bonn/Formula$Operator" "AF" "Lcom/example/bonn/bonn/Formula$Operator;" (.ref s1_AF)) (S_Formula_Operator_EF : Sta Z h0 "com/example/bonn/bonn/Formula$Operator" "EF" "Lcom/example/bonn/bonn/Formula$Operator;" (.ref s2_EF)) (S_Formula_Operator_EG : Sta Z h0 "com/example/bonn/bonn/Formula$Operator" "EG" "Lcom/example/bonn/bonn/Formula$Operator;" (.ref s3_EG)) (S_Formula_Operator_EU : Sta Z h0 "com/example/bonn/bonn/Formula$Operator" "EU" "Lcom/example/bonn/bonn/Formula$Operator;" (.ref s4_EU)) (S_Formula_Operator_AU : Sta Z h0 "com/example/bonn/bonn/Formula$Operator" "AU" "Lcom/example/bonn/bonn/Formula$Operator;" (.ref s5_AU)) (S_Formula_Operator_AX : Sta Z h0 "com/example/bonn/bonn/Formula$Operator" "AX" "Lcom/example/bonn/bonn/Formula$Operator;" (.ref s6_AX)) (S_Formula_Operator_AG : Sta Z h0 "com/example/bonn/bonn/Formula$Operator" "AG" "Lcom/example/bonn/bonn/Formula$Operator;" (.ref s7_AG)) :
    MetFree l (⟨"com/example/bonn/bonn/OperatorIsExistentialPinLaw", "pick", "(I)Lcom/example/bonn/bonn/Formula$Operator;"⟩ : MethodName) (head1 (Jvm.Cond.code (⟨"com/example/bonn/bonn/OperatorIsExistentialPinLaw", "pick", "(I)Lcom/example/bonn/bonn/Formula$Operator;"⟩ : MethodName) method_2_code 1 (some (.object "com/example/bonn/bonn/Formula$Operator")) :: ws) ({ frames := 0, cells := 0, slots := 0, locals := 0 } : Room)) (fun a U => a = #[(.int p1)] ∧ Z.Warmed39 U.vm ∧ U.heap = h0) (fun _ _ _ _ _ => True) (fun _ U o U' => ∃ v L, o = .returned v ∧ Q1 Z p1 s0_EX s1_AF s2_EF s3_EG s4_EU s5_AU s6_AX s7_AG h0 n0 v U'.heap L ∧ FrameEnd U o U' L ({ frames := 0, cells := 0, slots := 0, locals := 0 } : Room).cells ({ frames := 0, cells := 0, slots := 0, locals := 0 } : Room).slots) := by
  refine MetFree.of_bodySF (plainFor_of_name pn_1) hisR ?_
  intro p e s m args below meth c s₁ Bd hml0 hP hK
  obtain ⟨rfl, hZ, hh⟩ := hP
  have hx := Bd.exec
  have hby := Bd.bytes
  have hml : c.maxLocals = 1 := hml0
  have hown : s.vm.findClass "com/example/bonn/bonn/OperatorIsExistentialPinLaw" = some m.cls := findClass_of_methodNamed Bd.named
  have hnm := (name_of_methodNamed Bd.named Bd.method).1
  have X0 : Stand p l e ({ frames := 0, cells := 0, slots := 0, locals := 0 } : Room) s m #[(.int p1)] below meth c s₁ [] 0 0 := Stand.of_body Bd
  have e0 : s₁.heap = h0 := by rw [← hh, Bd.state]; rfl
  have N0 := Fr.nil n0
  have pre0 : ∀ t, Steps p.tables e below (s₁.setTop (mkF m 0 #[.val (.int p1)] [])) t → Steps p.tables e below (s₁.setTop (entryFrame m #[(.int p1)] 1)) t := fun t k => castTop (ef_1 m p1) k
  refine own_step (Q := fun o U' => ∃ v L, o = .returned v ∧ Q1 Z p1 s0_EX s1_AF s2_EF s3_EG s4_EU s5_AU s6_AX s7_AG h0 n0 v U'.heap L ∧ FrameEnd s o U' L ({ frames := 0, cells := 0, slots := 0, locals := 0 } : Room).cells ({ frames := 0, cells := 0, slots := 0, locals := 0 } : Room).slots) pre0 ?_
  refine own_step (B := s₁.setTop (mkF m 1 #[.val (.int p1)] [(.int p1)])) (fun t k => ?_) ?_
  · show Steps p.tables e below (s₁.setTop (mkF m 0 #[.val (.int p1)] [])) _
    refine XS.iloadN X0.here hx rfl (hb hby d1_0) rfl ?_
    exact k
  by_cases h1 : p1 = (0 : Int32)
  · obtain ⟨T2, X2, e2, st2⟩ := getS X0 hx hZ (host := "") hown (hw _ (List.mem_of_getElem? (i := 4) rfl)) Via.refl e0 S_Formula_Operator_EX (g := (mkF m 4 #[.val (.int p1)] [])) rfl (hb hby d1_4)
    obtain ⟨fs, hr, hrun, hended, hW, hsame⟩ := X2.leave (v := some (.ref s0_EX)) (fun h => by rw [Bd.returns] at h; cases h)
    refine ⟨_, _, ?_, hrun, hended, _, _, rfl, ?_, ⟨_, rfl⟩, hW, hsame.mono (by decide) (by decide)⟩
    · show Steps p.tables e below (s₁.setTop (mkF m 1 #[.val (.int p1)] [(.int p1)])) _
      refine XS.ifNo X0.here hx rfl (hb hby d1_1) rfl ((if0 _ _).trans (teq h1).2) ?_
      show Steps p.tables e below (s₁.setTop (mkF m 4 #[.val (.int p1)] [])) _
      refine st2 _ ?_
      show Steps p.tables e below (T2.setTop (mkF m 7 #[.val (.int p1)] [(.ref s0_EX)])) _
      jvm_step X2.here [X2.here.top, hx, (hb hby d1_7), X2.method', Bd.returns, Value.isRef, FieldType.isReference]
      first | (intro acts; rw [hr _ acts rfl rfl rfl]) | rw [hr _ _ rfl rfl rfl]
      exact Steps.refl _
    · show Q1 Z p1 s0_EX s1_AF s2_EF s3_EG s4_EU s5_AU s6_AX s7_AG h0 n0 _ T2.heap _
      rw [e2]
      have hf : f1 p1 s0_EX s1_AF s2_EF s3_EG s4_EU s5_AU s6_AX s7_AG = s0_EX := by simp only [f1, if_pos h1]
      exact ⟨by rw [hf], N0, rfl⟩
  · refine own_step (B := s₁.setTop (mkF m 10 #[.val (.int p1)] [(.int (1 : Int32)), (.int p1)])) (fun t k => ?_) ?_
    · show Steps p.tables e below (s₁.setTop (mkF m 1 #[.val (.int p1)] [(.int p1)])) _
      refine XS.ifYes X0.here hx rfl (pc0 := 1) (pc' := 8) rfl (hb hby d1_1) rfl ((if0 _ _).trans (feq h1).2) (by decide) (by decide) ?_
      show Steps p.tables e below (s₁.setTop (mkF m 8 #[.val (.int p1)] [])) _
      refine XS.iloadN X0.here hx rfl (hb hby d1_8) rfl ?_
      show Steps p.tables e below (s₁.setTop (mkF m 9 #[.val (.int p1)] [(.int p1)])) _
      refine XS.iconst X0.here hx rfl (hb hby d1_9) ?_
      exact k
    by_cases h3 : p1 = (1 : Int32)
    · obtain ⟨T4, X4, e4, st4⟩ := getS X0 hx hZ (host := "") hown (hw _ (List.mem_of_getElem? (i := 25) rfl)) Via.refl e0 S_Formula_Operator_AX (g := (mkF m 13 #[.val (.int p1)] [])) rfl (hb hby d1_13)
      obtain ⟨fs, hr, hrun, hended, hW, hsame⟩ := X4.leave (v := some (.ref s6_AX)) (fun h => by rw [Bd.returns] at h; cases h)
      refine ⟨_, _, ?_, hrun, hended, _, _, rfl, ?_, ⟨_, rfl⟩, hW, hsame.mono (by decide) (by decide)⟩
      · show Steps p.tables e below (s₁.setTop (mkF m 10 #[.val (.int p1)] [(.int (1 : Int32)), (.int p1)])) _
        refine XS.icmpNo X0.here hx rfl (hb hby d1_10) rfl (teq h3).2 ?_
        show Steps p.tables e below (s₁.setTop (mkF m 13 #[.val (.int p1)] [])) _
        refine st4 _ ?_
        show Steps p.tables e below (T4.setTop (mkF m 16 #[.val (.int p1)] [(.ref s6_AX)])) _
        jvm_step X4.here [X4.here.top, hx, (hb hby d1_16), X4.method', Bd.returns, Value.isRef, FieldType.isReference]
        first | (intro acts; rw [hr _ acts rfl rfl rfl]) | rw [hr _ _ rfl rfl rfl]
        exact Steps.refl _
      · show Q1 Z p1 s0_EX s1_AF s2_EF s3_EG s4_EU s5_AU s6_AX s7_AG h0 n0 _ T4.heap _
        rw [e4]
        have hf : f1 p1 s0_EX s1_AF s2_EF s3_EG s4_EU s5_AU s6_AX s7_AG = s6_AX := by simp only [f1, if_neg h1, if_pos h3]
        exact ⟨by rw [hf], N0, rfl⟩
    · refine own_step (B := s₁.setTop (mkF m 19 #[.val (.int p1)] [(.int (2 : Int32)), (.int p1)])) (fun t k => ?_) ?_
      · show Steps p.tables e below (s₁.setTop (mkF m 10 #[.val (.int p1)] [(.int (1 : Int32)), (.int p1)])) _
        refine XS.icmpYes X0.here hx rfl (pc0 := 10) (pc' := 17) rfl (hb hby d1_10) rfl (feq h3).2 (by decide) (by decide) ?_
        show Steps p.tables e below (s₁.setTop (mkF m 17 #[.val (.int p1)] [])) _
        refine XS.iloadN X0.here hx rfl (hb hby d1_17) rfl ?_
        show Steps p.tables e below (s₁.setTop (mkF m 18 #[.val (.int p1)] [(.int p1)])) _
        refine XS.iconst X0.here hx rfl (hb hby d1_18) ?_
        exact k
      by_cases h5 : p1 = (2 : Int32)
      · obtain ⟨T6, X6, e6, st6⟩ := getS X0 hx hZ (host := "") hown (hw _ (List.mem_of_getElem? (i := 24) rfl)) Via.refl e0 S_Formula_Operator_EF (g := (mkF m 22 #[.val (.int p1)] [])) rfl (hb hby d1_22)
        obtain ⟨fs, hr, hrun, hended, hW, hsame⟩ := X6.leave (v := some (.ref s2_EF)) (fun h => by rw [Bd.returns] at h; cases h)
        refine ⟨_, _, ?_, hrun, hended, _, _, rfl, ?_, ⟨_, rfl⟩, hW, hsame.mono (by decide) (by decide)⟩
        · show Steps p.tables e below (s₁.setTop (mkF m 19 #[.val (.int p1)] [(.int (2 : Int32)), (.int p1)])) _
          refine XS.icmpNo X0.here hx rfl (hb hby d1_19) rfl (teq h5).2 ?_
          show Steps p.tables e below (s₁.setTop (mkF m 22 #[.val (.int p1)] [])) _
          refine st6 _ ?_
          show Steps p.tables e below (T6.setTop (mkF m 25 #[.val (.int p1)] [(.ref s2_EF)])) _
          jvm_step X6.here [X6.here.top, hx, (hb hby d1_25), X6.method', Bd.returns, Value.isRef, FieldType.isReference]
          first | (intro acts; rw [hr _ acts rfl rfl rfl]) | rw [hr _ _ rfl rfl rfl]
          exact Steps.refl _
        · show Q1 Z p1 s0_EX s1_AF s2_EF s3_EG s4_EU s5_AU s6_AX s7_AG h0 n0 _ T6.heap _
          rw [e6]
          have hf : f1 p1 s0_EX s1_AF s2_EF s3_EG s4_EU s5_AU s6_AX s7_AG = s2_EF := by simp only [f1, if_neg h1, if_neg h3, if_pos h5]
          exact ⟨by rw [hf], N0, rfl⟩
      · refine own_step (B := s₁.setTop (mkF m 28 #[.val (.int p1)] [(.int (3 : Int32)), (.int p1)])) (fun t k => ?_) ?_
        · show Steps p.tables e below (s₁.setTop (mkF m 19 #[.val (.int p1)] [(.int (2 : Int32)), (.int p1)])) _
          refine XS.icmpYes X0.here hx rfl (pc0 := 19) (pc' := 26) rfl (hb hby d1_19) rfl (feq h5).2 (by decide) (by decide) ?_
          show Steps p.tables e below (s₁.setTop (mkF m 26 #[.val (.int p1)] [])) _
          refine XS.iloadN X0.here hx rfl (hb hby d1_26) rfl ?_
          show Steps p.tables e below (s₁.setTop (mkF m 27 #[.val (.int p1)] [(.int p1)])) _
          refine XS.iconst X0.here hx rfl (hb hby d1_27) ?_
          exact k
        by_cases h7 : p1 = (3 : Int32)
        · obtain ⟨T8, X8, e8, st8⟩ := getS X0 hx hZ (host := "") hown (hw _ (List.mem_of_getElem? (i := 13) rfl)) Via.refl e0 S_Formula_Operator_AF (g := (mkF m 31 #[.val (.int p1)] [])) rfl (hb hby d1_31)
          obtain ⟨fs, hr, hrun, hended, hW, hsame⟩ := X8.leave (v := some (.ref s1_AF)) (fun h => by rw [Bd.returns] at h; cases h)
          refine ⟨_, _, ?_, hrun, hended, _, _, rfl, ?_, ⟨_, rfl⟩, hW, hsame.mono (by decide) (by decide)⟩
          · show Steps p.tables e below (s₁.setTop (mkF m 28 #[.val (.int p1)] [(.int (3 : Int32)), (.int p1)])) _
            refine XS.icmpNo X0.here hx rfl (hb hby d1_28) rfl (teq h7).2 ?_
            show Steps p.tables e below (s₁.setTop (mkF m 31 #[.val (.int p1)] [])) _
            refine st8 _ ?_
            show Steps p.tables e below (T8.setTop (mkF m 34 #[.val (.int p1)] [(.ref s1_AF)])) _
            jvm_step X8.here [X8.here.top, hx, (hb hby d1_34), X8.method', Bd.returns, Value.isRef, FieldType.isReference]
            first | (intro acts; rw [hr _ acts rfl rfl rfl]) | rw [hr _ _ rfl rfl rfl]
            exact Steps.refl _
          · show Q1 Z p1 s0_EX s1_AF s2_EF s3_EG s4_EU s5_AU s6_AX s7_AG h0 n0 _ T8.heap _
            rw [e8]
            have hf : f1 p1 s0_EX s1_AF s2_EF s3_EG s4_EU s5_AU s6_AX s7_AG = s1_AF := by simp only [f1, if_neg h1, if_neg h3, if_neg h5, if_pos h7]
            exact ⟨by rw [hf], N0, rfl⟩
        · refine own_step (B := s₁.setTop (mkF m 37 #[.val (.int p1)] [(.int (4 : Int32)), (.int p1)])) (fun t k => ?_) ?_
          · show Steps p.tables e below (s₁.setTop (mkF m 28 #[.val (.int p1)] [(.int (3 : Int32)), (.int p1)])) _
            refine XS.icmpYes X0.here hx rfl (pc0 := 28) (pc' := 35) rfl (hb hby d1_28) rfl (feq h7).2 (by decide) (by decide) ?_
            show Steps p.tables e below (s₁.setTop (mkF m 35 #[.val (.int p1)] [])) _
            refine XS.iloadN X0.here hx rfl (hb hby d1_35) rfl ?_
            show Steps p.tables e below (s₁.setTop (mkF m 36 #[.val (.int p1)] [(.int p1)])) _
            refine XS.iconst X0.here hx rfl (hb hby d1_36) ?_
            exact k
          by_cases h9 : p1 = (4 : Int32)
          · obtain ⟨T10, X10, e10, st10⟩ := getS X0 hx hZ (host := "") hown (hw _ (List.mem_of_getElem? (i := 27) rfl)) Via.refl e0 S_Formula_Operator_EG (g := (mkF m 40 #[.val (.int p1)] [])) rfl (hb hby d1_40)
            obtain ⟨fs, hr, hrun, hended, hW, hsame⟩ := X10.leave (v := some (.ref s3_EG)) (fun h => by rw [Bd.returns] at h; cases h)
            refine ⟨_, _, ?_, hrun, hended, _, _, rfl, ?_, ⟨_, rfl⟩, hW, hsame.mono (by decide) (by decide)⟩
            · show Steps p.tables e below (s₁.setTop (mkF m 37 #[.val (.int p1)] [(.int (4 : Int32)), (.int p1)])) _
              refine XS.icmpNo X0.here hx rfl (hb hby d1_37) rfl (teq h9).2 ?_
              show Steps p.tables e below (s₁.setTop (mkF m 40 #[.val (.int p1)] [])) _
              refine st10 _ ?_
              show Steps p.tables e below (T10.setTop (mkF m 43 #[.val (.int p1)] [(.ref s3_EG)])) _
              jvm_step X10.here [X10.here.top, hx, (hb hby d1_43), X10.method', Bd.returns, Value.isRef, FieldType.isReference]
              first | (intro acts; rw [hr _ acts rfl rfl rfl]) | rw [hr _ _ rfl rfl rfl]
              exact Steps.refl _
            · show Q1 Z p1 s0_EX s1_AF s2_EF s3_EG s4_EU s5_AU s6_AX s7_AG h0 n0 _ T10.heap _
              rw [e10]
              have hf : f1 p1 s0_EX s1_AF s2_EF s3_EG s4_EU s5_AU s6_AX s7_AG = s3_EG := by simp only [f1, if_neg h1, if_neg h3, if_neg h5, if_neg h7, if_pos h9]
              exact ⟨by rw [hf], N0, rfl⟩
          · refine own_step (B := s₁.setTop (mkF m 46 #[.val (.int p1)] [(.int (5 : Int32)), (.int p1)])) (fun t k => ?_) ?_
            · show Steps p.tables e below (s₁.setTop (mkF m 37 #[.val (.int p1)] [(.int (4 : Int32)), (.int p1)])) _
              refine XS.icmpYes X0.here hx rfl (pc0 := 37) (pc' := 44) rfl (hb hby d1_37) rfl (feq h9).2 (by decide) (by decide) ?_
              show Steps p.tables e below (s₁.setTop (mkF m 44 #[.val (.int p1)] [])) _
              refine XS.iloadN X0.here hx rfl (hb hby d1_44) rfl ?_
              show Steps p.tables e below (s₁.setTop (mkF m 45 #[.val (.int p1)] [(.int p1)])) _
              refine XS.iconst X0.here hx rfl (hb hby d1_45) ?_
              exact k
            by_cases h11 : p1 = (5 : Int32)
            · obtain ⟨T12, X12, e12, st12⟩ := getS X0 hx hZ (host := "") hown (hw _ (List.mem_of_getElem? (i := 28) rfl)) Via.refl e0 S_Formula_Operator_AG (g := (mkF m 49 #[.val (.int p1)] [])) rfl (hb hby d1_49)
              obtain ⟨fs, hr, hrun, hended, hW, hsame⟩ := X12.leave (v := some (.ref s7_AG)) (fun h => by rw [Bd.returns] at h; cases h)
              refine ⟨_, _, ?_, hrun, hended, _, _, rfl, ?_, ⟨_, rfl⟩, hW, hsame.mono (by decide) (by decide)⟩
              · show Steps p.tables e below (s₁.setTop (mkF m 46 #[.val (.int p1)] [(.int (5 : Int32)), (.int p1)])) _
                refine XS.icmpNo X0.here hx rfl (hb hby d1_46) rfl (teq h11).2 ?_
                show Steps p.tables e below (s₁.setTop (mkF m 49 #[.val (.int p1)] [])) _
                refine st12 _ ?_
                show Steps p.tables e below (T12.setTop (mkF m 52 #[.val (.int p1)] [(.ref s7_AG)])) _
                jvm_step X12.here [X12.here.top, hx, (hb hby d1_52), X12.method', Bd.returns, Value.isRef, FieldType.isReference]
                first | (intro acts; rw [hr _ acts rfl rfl rfl]) | rw [hr _ _ rfl rfl rfl]
                exact Steps.refl _
              · show Q1 Z p1 s0_EX s1_AF s2_EF s3_EG s4_EU s5_AU s6_AX s7_AG h0 n0 _ T12.heap _
                rw [e12]
                have hf : f1 p1 s0_EX s1_AF s2_EF s3_EG s4_EU s5_AU s6_AX s7_AG = s7_AG := by simp only [f1, if_neg h1, if_neg h3, if_neg h5, if_neg h7, if_neg h9, if_pos h11]
                exact ⟨by rw [hf], N0, rfl⟩
            · refine own_step (B := s₁.setTop (mkF m 56 #[.val (.int p1)] [(.int (6 : Int32)), (.int p1)])) (fun t k => ?_) ?_
              · show Steps p.tables e below (s₁.setTop (mkF m 46 #[.val (.int p1)] [(.int (5 : Int32)), (.int p1)])) _
                refine XS.icmpYes X0.here hx rfl (pc0 := 46) (pc' := 53) rfl (hb hby d1_46) rfl (feq h11).2 (by decide) (by decide) ?_
                show Steps p.tables e below (s₁.setTop (mkF m 53 #[.val (.int p1)] [])) _
                refine XS.iloadN X0.here hx rfl (hb hby d1_53) rfl ?_
                show Steps p.tables e below (s₁.setTop (mkF m 54 #[.val (.int p1)] [(.int p1)])) _
                refine XS.bipush X0.here hx rfl (hb hby d1_54) ?_
                exact k
              by_cases h13 : p1 = (6 : Int32)
              · obtain ⟨T14, X14, e14, st14⟩ := getS X0 hx hZ (host := "") hown (hw _ (List.mem_of_getElem? (i := 21) rfl)) Via.refl e0 S_Formula_Operator_EU (g := (mkF m 59 #[.val (.int p1)] [])) rfl (hb hby d1_59)
                obtain ⟨fs, hr, hrun, hended, hW, hsame⟩ := X14.leave (v := some (.ref s4_EU)) (fun h => by rw [Bd.returns] at h; cases h)
                refine ⟨_, _, ?_, hrun, hended, _, _, rfl, ?_, ⟨_, rfl⟩, hW, hsame.mono (by decide) (by decide)⟩
                · show Steps p.tables e below (s₁.setTop (mkF m 56 #[.val (.int p1)] [(.int (6 : Int32)), (.int p1)])) _
                  refine XS.icmpNo X0.here hx rfl (hb hby d1_56) rfl (teq h13).2 ?_
                  show Steps p.tables e below (s₁.setTop (mkF m 59 #[.val (.int p1)] [])) _
                  refine st14 _ ?_
                  show Steps p.tables e below (T14.setTop (mkF m 62 #[.val (.int p1)] [(.ref s4_EU)])) _
                  jvm_step X14.here [X14.here.top, hx, (hb hby d1_62), X14.method', Bd.returns, Value.isRef, FieldType.isReference]
                  first | (intro acts; rw [hr _ acts rfl rfl rfl]) | rw [hr _ _ rfl rfl rfl]
                  exact Steps.refl _
                · show Q1 Z p1 s0_EX s1_AF s2_EF s3_EG s4_EU s5_AU s6_AX s7_AG h0 n0 _ T14.heap _
                  rw [e14]
                  have hf : f1 p1 s0_EX s1_AF s2_EF s3_EG s4_EU s5_AU s6_AX s7_AG = s4_EU := by simp only [f1, if_neg h1, if_neg h3, if_neg h5, if_neg h7, if_neg h9, if_neg h11, if_pos h13]
                  exact ⟨by rw [hf], N0, rfl⟩
              · obtain ⟨T15, X15, e15, st15⟩ := getS X0 hx hZ (host := "") hown (hw _ (List.mem_of_getElem? (i := 22) rfl)) Via.refl e0 S_Formula_Operator_AU (g := (mkF m 63 #[.val (.int p1)] [])) rfl (hb hby d1_63)
                obtain ⟨fs, hr, hrun, hended, hW, hsame⟩ := X15.leave (v := some (.ref s5_AU)) (fun h => by rw [Bd.returns] at h; cases h)
                refine ⟨_, _, ?_, hrun, hended, _, _, rfl, ?_, ⟨_, rfl⟩, hW, hsame.mono (by decide) (by decide)⟩
                · show Steps p.tables e below (s₁.setTop (mkF m 56 #[.val (.int p1)] [(.int (6 : Int32)), (.int p1)])) _
                  refine XS.icmpYes X0.here hx rfl (pc0 := 56) (pc' := 63) rfl (hb hby d1_56) rfl (feq h13).2 (by decide) (by decide) ?_
                  show Steps p.tables e below (s₁.setTop (mkF m 63 #[.val (.int p1)] [])) _
                  refine st15 _ ?_
                  show Steps p.tables e below (T15.setTop (mkF m 66 #[.val (.int p1)] [(.ref s5_AU)])) _
                  jvm_step X15.here [X15.here.top, hx, (hb hby d1_66), X15.method', Bd.returns, Value.isRef, FieldType.isReference]
                  first | (intro acts; rw [hr _ acts rfl rfl rfl]) | rw [hr _ _ rfl rfl rfl]
                  exact Steps.refl _
                · show Q1 Z p1 s0_EX s1_AF s2_EF s3_EG s4_EU s5_AU s6_AX s7_AG h0 n0 _ T15.heap _
                  rw [e15]
                  have hf : f1 p1 s0_EX s1_AF s2_EF s3_EG s4_EU s5_AU s6_AX s7_AG = s5_AU := by simp only [f1, if_neg h1, if_neg h3, if_neg h5, if_neg h7, if_neg h9, if_neg h11, if_neg h13]
                  exact ⟨by rw [hf], N0, rfl⟩
theorem d2_0 : decode prog_26_method_5_code 0 = .ok (.aload_n 0, 1) := by decide +kernel
theorem d2_1 : decode prog_26_method_5_code 1 = .ok (.getstatic 3, 3) := by decide +kernel
theorem d2_4 : decode prog_26_method_5_code 4 = .ok (.if_acmp .eq 24, 3) := by decide +kernel
theorem d2_7 : decode prog_26_method_5_code 7 = .ok (.aload_n 0, 1) := by decide +kernel
theorem d2_8 : decode prog_26_method_5_code 8 = .ok (.getstatic 10, 3) := by decide +kernel
theorem d2_11 : decode prog_26_method_5_code 11 = .ok (.if_acmp .eq 17, 3) := by decide +kernel
theorem d2_14 : decode prog_26_method_5_code 14 = .ok (.aload_n 0, 1) := by decide +kernel
theorem d2_15 : decode prog_26_method_5_code 15 = .ok (.getstatic 16, 3) := by decide +kernel
theorem d2_18 : decode prog_26_method_5_code 18 = .ok (.if_acmp .eq 10, 3) := by decide +kernel
theorem d2_21 : decode prog_26_method_5_code 21 = .ok (.aload_n 0, 1) := by decide +kernel
theorem d2_22 : decode prog_26_method_5_code 22 = .ok (.getstatic 22, 3) := by decide +kernel
theorem d2_25 : decode prog_26_method_5_code 25 = .ok (.if_acmp .ne 7, 3) := by decide +kernel
theorem d2_28 : decode prog_26_method_5_code 28 = .ok (.iconst 1, 1) := by decide +kernel
theorem d2_29 : decode prog_26_method_5_code 29 = .ok (.goto 4, 3) := by decide +kernel
theorem d2_32 : decode prog_26_method_5_code 32 = .ok (.iconst 0, 1) := by decide +kernel
theorem d2_33 : decode prog_26_method_5_code 33 = .ok (.ireturn, 1) := by decide +kernel
theorem pn_2 : plainName "com/example/bonn/bonn/Formula$Operator" = true := by first | (simp [plainName, overriddenIn]; done) | decide +kernel
theorem ef_2 (m : MethodId) (a1 : Addr) : entryFrame m #[(.ref a1)] 1 = mkF m 0 #[.val (.ref a1)] [] := by first | (simp [entryFrame, mkF, argsToLocals, Value.category]; done) | rfl
def Q2 (Z : State) (a1 : Addr) (s0_EX : Addr) (s1_AF : Addr) (s2_EF : Addr) (s3_EG : Addr) (s4_EU : Addr) (s5_AU : Addr) (s6_AX : Addr) (s7_AG : Addr) (h0 : Heap) (n0 : Nat) (v : Option Value) (h : Heap) (L : List Loc) : Prop := v = some (.int (f2 a1 s0_EX s1_AF s2_EF s3_EG s4_EU s5_AU s6_AX s7_AG)) ∧ Fr n0 L ∧ h = h0
set_option maxRecDepth 65536 in
set_option maxHeartbeats 40000000 in
theorem rm2 (l : Launch) (Z : State) (a0 : Array Value) (hw : ∀ d ∈ tables_1, d.before a0 Z = true) (ws : List Jvm.Cond) (a1 : Addr) (s0_EX : Addr) (s1_AF : Addr) (s2_EF : Addr) (s3_EG : Addr) (s4_EU : Addr) (s5_AU : Addr) (s6_AX : Addr) (s7_AG : Addr) (h0 : Heap) (n0 : Nat) (Z0 : n0 ≤ h0.size) (S_Formula_Operator_EX : Sta Z h0 "com/example/bonn/bonn/Formula$Operator" "EX" "Lcom/example/bonn/bonn/Formula$Operator;" (.ref s0_EX)) (S_Formula_Operator_AF : Sta Z h0 "com/example/bonn/bonn/Formula$Operator" "AF" "Lcom/example/bonn/bonn/Formula$Operator;" (.ref s1_AF)) (S_Formula_Operator_EF : Sta Z h0 "com/example/bonn/bonn/Formula$Operator" "EF" "Lcom/example/bonn/bonn/Formula$Operator;" (.ref s2_EF)) (S_Formula_Operator_EG : Sta Z h0 "com/example/bonn/bonn/Formula$Operator" "EG" "Lcom/example/bonn/bonn/Formula$Operator;" (.ref s3_EG)) (S_Formula_Operator_EU : Sta Z h0 "com/example/bonn/bonn/Formula$Operator" "EU" "Lcom/example/bonn/bonn/Formula$Operator;" (.ref s4_EU)) (S_Formula_Operator_AU : Sta Z h0 "com/example/bonn/bonn/Formula$Operator" "AU" "Lcom/example/bonn/bonn/Formula$Operator;" (.ref s5_AU)) (S_Formula_Operator_AX : Sta Z h0 "com/example/bonn/bonn/Formula$Operator" "AX" "Lcom/example/bonn/bonn/Formula$Operator;" (.ref s6_AX)) (S_Formula_Operator_AG : Sta Z h0 "com/example/bonn/bonn/Formula$Operator" "AG" "Lcom/example/bonn/bonn/Formula$Operator;" (.ref s7_AG)) :
    MetFree l (⟨"com/example/bonn/bonn/Formula$Operator", "isExistential", "()Z"⟩ : MethodName) (head1 (Jvm.Cond.code (⟨"com/example/bonn/bonn/Formula$Operator", "isExistential", "()Z"⟩ : MethodName) prog_26_method_5_code 1 (some .boolean) :: ws) ({ frames := 0, cells := 0, slots := 0, locals := 0 } : Room)) (fun a U => a = #[(.ref a1)] ∧ Z.Warmed39 U.vm ∧ U.heap = h0) (fun _ _ _ _ _ => True) (fun _ U o U' => ∃ v L, o = .returned v ∧ Q2 Z a1 s0_EX s1_AF s2_EF s3_EG s4_EU s5_AU s6_AX s7_AG h0 n0 v U'.heap L ∧ FrameEnd U o U' L ({ frames := 0, cells := 0, slots := 0, locals := 0 } : Room).cells ({ frames := 0, cells := 0, slots := 0, locals := 0 } : Room).slots) := by
  refine MetFree.of_bodySF (plainFor_of_name pn_2) hisR ?_
  intro p e s m args below meth c s₁ Bd hml0 hP hK
  obtain ⟨rfl, hZ, hh⟩ := hP
  have hx := Bd.exec
  have hby := Bd.bytes
  have hml : c.maxLocals = 1 := hml0
  have hown : s.vm.findClass "com/example/bonn/bonn/Formula$Operator" = some m.cls := findClass_of_methodNamed Bd.named
  have hnm := (name_of_methodNamed Bd.named Bd.method).1
  have X0 : Stand p l e ({ frames := 0, cells := 0, slots := 0, locals := 0 } : Room) s m #[(.ref a1)] below meth c s₁ [] 0 0 := Stand.of_body Bd
  have e0 : s₁.heap = h0 := by rw [← hh, Bd.state]; rfl
  have N0 := Fr.nil n0
  have pre0 : ∀ t, Steps p.tables e below (s₁.setTop (mkF m 0 #[.val (.ref a1)] [])) t → Steps p.tables e below (s₁.setTop (entryFrame m #[(.ref a1)] 1)) t := fun t k => castTop (ef_2 m a1) k
  refine own_step (Q := fun o U' => ∃ v L, o = .returned v ∧ Q2 Z a1 s0_EX s1_AF s2_EF s3_EG s4_EU s5_AU s6_AX s7_AG h0 n0 v U'.heap L ∧ FrameEnd s o U' L ({ frames := 0, cells := 0, slots := 0, locals := 0 } : Room).cells ({ frames := 0, cells := 0, slots := 0, locals := 0 } : Room).slots) pre0 ?_
  obtain ⟨T1, X1, e1, st1⟩ := getS X0 hx hZ (host := "") hown (hw _ (List.mem_of_getElem? (i := 12) rfl)) Via.refl e0 S_Formula_Operator_EX (g := (mkF m 1 #[.val (.ref a1)] [(.ref a1)])) rfl (hb hby d2_1)
  refine own_step (B := T1.setTop (mkF m 4 #[.val (.ref a1)] [(.ref s0_EX), (.ref a1)])) (fun t k => ?_) ?_
  · show Steps p.tables e below (s₁.setTop (mkF m 0 #[.val (.ref a1)] [])) _
    refine XS.aloadN X0.here hx rfl (hb hby d2_0) rfl rfl ?_
    show Steps p.tables e below (s₁.setTop (mkF m 1 #[.val (.ref a1)] [(.ref a1)])) _
    refine st1 _ ?_
    exact k
  by_cases h2 : a1 = s0_EX
  · obtain ⟨fs, hr, hrun, hended, hW, hsame⟩ := X1.leave (v := some (.int (1 : Int32))) (fun h => by rw [Bd.returns] at h; cases h)
    refine ⟨_, _, ?_, hrun, hended, _, _, rfl, ?_, ⟨_, rfl⟩, hW, hsame.mono (by decide) (by decide)⟩
    · show Steps p.tables e below (T1.setTop (mkF m 4 #[.val (.ref a1)] [(.ref s0_EX), (.ref a1)])) _
      refine XT.acmpYes X1.here hx rfl (pc0 := 4) (pc' := 28) rfl (hb hby d2_4) rfl rfl rfl ((own_aT h2).1) (by decide) (by decide) ?_
      show Steps p.tables e below (T1.setTop (mkF m 28 #[.val (.ref a1)] [])) _
      refine XS.iconst X1.here hx rfl (hb hby d2_28) ?_
      show Steps p.tables e below (T1.setTop (mkF m 29 #[.val (.ref a1)] [(.int (1 : Int32))])) _
      refine XS.goto X1.here hx rfl (pc0 := 29) (pc' := 33) rfl (hb hby d2_29) (by decide) (by decide) ?_
      show Steps p.tables e below (T1.setTop (mkF m 33 #[.val (.ref a1)] [(.int (1 : Int32))])) _
      exact retN X1 hx (t := .boolean) Bd.returns (by simp) (hb hby d2_33) hr
    · show Q2 Z a1 s0_EX s1_AF s2_EF s3_EG s4_EU s5_AU s6_AX s7_AG h0 n0 _ T1.heap _
      rw [e1]
      have hf : f2 a1 s0_EX s1_AF s2_EF s3_EG s4_EU s5_AU s6_AX s7_AG = (1 : Int32) := by simp only [f2, if_pos h2]
      exact ⟨by rw [hf], N0, rfl⟩
  · obtain ⟨T3, X3, e3, st3⟩ := getS X1 hx hZ (host := "") hown (hw _ (List.mem_of_getElem? (i := 15) rfl)) Via.refl e1 S_Formula_Operator_EF (g := (mkF m 8 #[.val (.ref a1)] [(.ref a1)])) rfl (hb hby d2_8)
    refine own_step (B := T3.setTop (mkF m 11 #[.val (.ref a1)] [(.ref s2_EF), (.ref a1)])) (fun t k => ?_) ?_
    · show Steps p.tables e below (T1.setTop (mkF m 4 #[.val (.ref a1)] [(.ref s0_EX), (.ref a1)])) _
      refine XT.acmpNo X1.here hx rfl (hb hby d2_4) rfl rfl rfl ((own_aF h2).1) ?_
      show Steps p.tables e below (T1.setTop (mkF m 7 #[.val (.ref a1)] [])) _
      refine XS.aloadN X1.here hx rfl (hb hby d2_7) rfl rfl ?_
      show Steps p.tables e below (T1.setTop (mkF m 8 #[.val (.ref a1)] [(.ref a1)])) _
      refine st3 _ ?_
      exact k
    by_cases h4 : a1 = s2_EF
    · obtain ⟨fs, hr, hrun, hended, hW, hsame⟩ := X3.leave (v := some (.int (1 : Int32))) (fun h => by rw [Bd.returns] at h; cases h)
      refine ⟨_, _, ?_, hrun, hended, _, _, rfl, ?_, ⟨_, rfl⟩, hW, hsame.mono (by decide) (by decide)⟩
      · show Steps p.tables e below (T3.setTop (mkF m 11 #[.val (.ref a1)] [(.ref s2_EF), (.ref a1)])) _
        refine XT.acmpYes X3.here hx rfl (pc0 := 11) (pc' := 28) rfl (hb hby d2_11) rfl rfl rfl ((own_aT h4).1) (by decide) (by decide) ?_
        show Steps p.tables e below (T3.setTop (mkF m 28 #[.val (.ref a1)] [])) _
        refine XS.iconst X3.here hx rfl (hb hby d2_28) ?_
        show Steps p.tables e below (T3.setTop (mkF m 29 #[.val (.ref a1)] [(.int (1 : Int32))])) _
        refine XS.goto X3.here hx rfl (pc0 := 29) (pc' := 33) rfl (hb hby d2_29) (by decide) (by decide) ?_
        show Steps p.tables e below (T3.setTop (mkF m 33 #[.val (.ref a1)] [(.int (1 : Int32))])) _
        exact retN X3 hx (t := .boolean) Bd.returns (by simp) (hb hby d2_33) hr
      · show Q2 Z a1 s0_EX s1_AF s2_EF s3_EG s4_EU s5_AU s6_AX s7_AG h0 n0 _ T3.heap _
        rw [e3]
        have hf : f2 a1 s0_EX s1_AF s2_EF s3_EG s4_EU s5_AU s6_AX s7_AG = (1 : Int32) := by simp only [f2, if_neg h2, if_pos h4]
        exact ⟨by rw [hf], N0, rfl⟩
    · obtain ⟨T5, X5, e5, st5⟩ := getS X3 hx hZ (host := "") hown (hw _ (List.mem_of_getElem? (i := 17) rfl)) Via.refl e3 S_Formula_Operator_EG (g := (mkF m 15 #[.val (.ref a1)] [(.ref a1)])) rfl (hb hby d2_15)
      refine own_step (B := T5.setTop (mkF m 18 #[.val (.ref a1)] [(.ref s3_EG), (.ref a1)])) (fun t k => ?_) ?_
      · show Steps p.tables e below (T3.setTop (mkF m 11 #[.val (.ref a1)] [(.ref s2_EF), (.ref a1)])) _
        refine XT.acmpNo X3.here hx rfl (hb hby d2_11) rfl rfl rfl ((own_aF h4).1) ?_
        show Steps p.tables e below (T3.setTop (mkF m 14 #[.val (.ref a1)] [])) _
        refine XS.aloadN X3.here hx rfl (hb hby d2_14) rfl rfl ?_
        show Steps p.tables e below (T3.setTop (mkF m 15 #[.val (.ref a1)] [(.ref a1)])) _
        refine st5 _ ?_
        exact k
      by_cases h6 : a1 = s3_EG
      · obtain ⟨fs, hr, hrun, hended, hW, hsame⟩ := X5.leave (v := some (.int (1 : Int32))) (fun h => by rw [Bd.returns] at h; cases h)
        refine ⟨_, _, ?_, hrun, hended, _, _, rfl, ?_, ⟨_, rfl⟩, hW, hsame.mono (by decide) (by decide)⟩
        · show Steps p.tables e below (T5.setTop (mkF m 18 #[.val (.ref a1)] [(.ref s3_EG), (.ref a1)])) _
          refine XT.acmpYes X5.here hx rfl (pc0 := 18) (pc' := 28) rfl (hb hby d2_18) rfl rfl rfl ((own_aT h6).1) (by decide) (by decide) ?_
          show Steps p.tables e below (T5.setTop (mkF m 28 #[.val (.ref a1)] [])) _
          refine XS.iconst X5.here hx rfl (hb hby d2_28) ?_
          show Steps p.tables e below (T5.setTop (mkF m 29 #[.val (.ref a1)] [(.int (1 : Int32))])) _
          refine XS.goto X5.here hx rfl (pc0 := 29) (pc' := 33) rfl (hb hby d2_29) (by decide) (by decide) ?_
          show Steps p.tables e below (T5.setTop (mkF m 33 #[.val (.ref a1)] [(.int (1 : Int32))])) _
          exact retN X5 hx (t := .boolean) Bd.returns (by simp) (hb hby d2_33) hr
        · show Q2 Z a1 s0_EX s1_AF s2_EF s3_EG s4_EU s5_AU s6_AX s7_AG h0 n0 _ T5.heap _
          rw [e5]
          have hf : f2 a1 s0_EX s1_AF s2_EF s3_EG s4_EU s5_AU s6_AX s7_AG = (1 : Int32) := by simp only [f2, if_neg h2, if_neg h4, if_pos h6]
          exact ⟨by rw [hf], N0, rfl⟩
      · obtain ⟨T7, X7, e7, st7⟩ := getS X5 hx hZ (host := "") hown (hw _ (List.mem_of_getElem? (i := 19) rfl)) Via.refl e5 S_Formula_Operator_EU (g := (mkF m 22 #[.val (.ref a1)] [(.ref a1)])) rfl (hb hby d2_22)
        refine own_step (B := T7.setTop (mkF m 25 #[.val (.ref a1)] [(.ref s4_EU), (.ref a1)])) (fun t k => ?_) ?_
        · show Steps p.tables e below (T5.setTop (mkF m 18 #[.val (.ref a1)] [(.ref s3_EG), (.ref a1)])) _
          refine XT.acmpNo X5.here hx rfl (hb hby d2_18) rfl rfl rfl ((own_aF h6).1) ?_
          show Steps p.tables e below (T5.setTop (mkF m 21 #[.val (.ref a1)] [])) _
          refine XS.aloadN X5.here hx rfl (hb hby d2_21) rfl rfl ?_
          show Steps p.tables e below (T5.setTop (mkF m 22 #[.val (.ref a1)] [(.ref a1)])) _
          refine st7 _ ?_
          exact k
        by_cases h8 : a1 = s4_EU
        · obtain ⟨fs, hr, hrun, hended, hW, hsame⟩ := X7.leave (v := some (.int (1 : Int32))) (fun h => by rw [Bd.returns] at h; cases h)
          refine ⟨_, _, ?_, hrun, hended, _, _, rfl, ?_, ⟨_, rfl⟩, hW, hsame.mono (by decide) (by decide)⟩
          · show Steps p.tables e below (T7.setTop (mkF m 25 #[.val (.ref a1)] [(.ref s4_EU), (.ref a1)])) _
            refine XT.acmpNo X7.here hx rfl (hb hby d2_25) rfl rfl rfl ((own_aT h8).2) ?_
            show Steps p.tables e below (T7.setTop (mkF m 28 #[.val (.ref a1)] [])) _
            refine XS.iconst X7.here hx rfl (hb hby d2_28) ?_
            show Steps p.tables e below (T7.setTop (mkF m 29 #[.val (.ref a1)] [(.int (1 : Int32))])) _
            refine XS.goto X7.here hx rfl (pc0 := 29) (pc' := 33) rfl (hb hby d2_29) (by decide) (by decide) ?_
            show Steps p.tables e below (T7.setTop (mkF m 33 #[.val (.ref a1)] [(.int (1 : Int32))])) _
            exact retN X7 hx (t := .boolean) Bd.returns (by simp) (hb hby d2_33) hr
          · show Q2 Z a1 s0_EX s1_AF s2_EF s3_EG s4_EU s5_AU s6_AX s7_AG h0 n0 _ T7.heap _
            rw [e7]
            have hf : f2 a1 s0_EX s1_AF s2_EF s3_EG s4_EU s5_AU s6_AX s7_AG = (1 : Int32) := by simp only [f2, if_neg h2, if_neg h4, if_neg h6, if_pos h8]
            exact ⟨by rw [hf], N0, rfl⟩
        · obtain ⟨fs, hr, hrun, hended, hW, hsame⟩ := X7.leave (v := some (.int (0 : Int32))) (fun h => by rw [Bd.returns] at h; cases h)
          refine ⟨_, _, ?_, hrun, hended, _, _, rfl, ?_, ⟨_, rfl⟩, hW, hsame.mono (by decide) (by decide)⟩
          · show Steps p.tables e below (T7.setTop (mkF m 25 #[.val (.ref a1)] [(.ref s4_EU), (.ref a1)])) _
            refine XT.acmpYes X7.here hx rfl (pc0 := 25) (pc' := 32) rfl (hb hby d2_25) rfl rfl rfl ((own_aF h8).2) (by decide) (by decide) ?_
            show Steps p.tables e below (T7.setTop (mkF m 32 #[.val (.ref a1)] [])) _
            refine XS.iconst X7.here hx rfl (hb hby d2_32) ?_
            show Steps p.tables e below (T7.setTop (mkF m 33 #[.val (.ref a1)] [(.int (0 : Int32))])) _
            exact retN X7 hx (t := .boolean) Bd.returns (by simp) (hb hby d2_33) hr
          · show Q2 Z a1 s0_EX s1_AF s2_EF s3_EG s4_EU s5_AU s6_AX s7_AG h0 n0 _ T7.heap _
            rw [e7]
            have hf : f2 a1 s0_EX s1_AF s2_EF s3_EG s4_EU s5_AU s6_AX s7_AG = (0 : Int32) := by simp only [f2, if_neg h2, if_neg h4, if_neg h6, if_neg h8]
            exact ⟨by rw [hf], N0, rfl⟩
theorem pn_0 : plainName "com/example/bonn/bonn/OperatorIsExistentialPinLaw" = true := by first | (simp [plainName, overriddenIn]; done) | decide +kernel
theorem ef_0 (m : MethodId) (p1 : Int32) : entryFrame m #[(.int p1)] maxLocals = mkF m 0 #[.val (.int p1), .unset, .unset, .unset] [] := by first | (simp [entryFrame, mkF, argsToLocals, Value.category, maxLocals]; done) | rfl
def Q0 (Z : State) (p1 : Int32) (s0_EX : Addr) (s1_AF : Addr) (s2_EF : Addr) (s3_EG : Addr) (s4_EU : Addr) (s5_AU : Addr) (s6_AX : Addr) (s7_AG : Addr) (h0 : Heap) (n0 : Nat) (v : Option Value) (h : Heap) (L : List Loc) : Prop := v = some (.int (1 : Int32)) ∧ Fr n0 L
set_option maxRecDepth 65536 in
set_option maxHeartbeats 40000000 in
theorem rm0 (l : Launch) (Z : State) (a0 : Array Value) (hw : ∀ d ∈ tables_1, d.before a0 Z = true) (ws : List Jvm.Cond) (p1 : Int32) (s0_EX : Addr) (s1_AF : Addr) (s2_EF : Addr) (s3_EG : Addr) (s4_EU : Addr) (s5_AU : Addr) (s6_AX : Addr) (s7_AG : Addr) (h0 : Heap) (n0 : Nat) (Z0 : n0 ≤ h0.size) (S_Formula_Operator_EX : Sta Z h0 "com/example/bonn/bonn/Formula$Operator" "EX" "Lcom/example/bonn/bonn/Formula$Operator;" (.ref s0_EX)) (E_s0_EX : Exa Z h0 s0_EX "com/example/bonn/bonn/Formula$Operator") (S_Formula_Operator_AF : Sta Z h0 "com/example/bonn/bonn/Formula$Operator" "AF" "Lcom/example/bonn/bonn/Formula$Operator;" (.ref s1_AF)) (E_s1_AF : Exa Z h0 s1_AF "com/example/bonn/bonn/Formula$Operator") (S_Formula_Operator_EF : Sta Z h0 "com/example/bonn/bonn/Formula$Operator" "EF" "Lcom/example/bonn/bonn/Formula$Operator;" (.ref s2_EF)) (E_s2_EF : Exa Z h0 s2_EF "com/example/bonn/bonn/Formula$Operator") (S_Formula_Operator_EG : Sta Z h0 "com/example/bonn/bonn/Formula$Operator" "EG" "Lcom/example/bonn/bonn/Formula$Operator;" (.ref s3_EG)) (E_s3_EG : Exa Z h0 s3_EG "com/example/bonn/bonn/Formula$Operator") (S_Formula_Operator_EU : Sta Z h0 "com/example/bonn/bonn/Formula$Operator" "EU" "Lcom/example/bonn/bonn/Formula$Operator;" (.ref s4_EU)) (E_s4_EU : Exa Z h0 s4_EU "com/example/bonn/bonn/Formula$Operator") (S_Formula_Operator_AU : Sta Z h0 "com/example/bonn/bonn/Formula$Operator" "AU" "Lcom/example/bonn/bonn/Formula$Operator;" (.ref s5_AU)) (E_s5_AU : Exa Z h0 s5_AU "com/example/bonn/bonn/Formula$Operator") (S_Formula_Operator_AX : Sta Z h0 "com/example/bonn/bonn/Formula$Operator" "AX" "Lcom/example/bonn/bonn/Formula$Operator;" (.ref s6_AX)) (E_s6_AX : Exa Z h0 s6_AX "com/example/bonn/bonn/Formula$Operator") (S_Formula_Operator_AG : Sta Z h0 "com/example/bonn/bonn/Formula$Operator" "AG" "Lcom/example/bonn/bonn/Formula$Operator;" (.ref s7_AG)) (E_s7_AG : Exa Z h0 s7_AG "com/example/bonn/bonn/Formula$Operator") (F_s1_AF_ordinal : Fld Z h0 s1_AF "java/lang/Enum" "ordinal" "I" (.int (3 : Int32))) (F_s0_EX_ordinal : Fld Z h0 s0_EX "java/lang/Enum" "ordinal" "I" (.int (0 : Int32))) (NE_s1_AF_s0_EX : s1_AF ≠ s0_EX) (F_s2_EF_ordinal : Fld Z h0 s2_EF "java/lang/Enum" "ordinal" "I" (.int (2 : Int32))) (NE_s1_AF_s2_EF : s1_AF ≠ s2_EF) (NE_s0_EX_s2_EF : s0_EX ≠ s2_EF) (F_s3_EG_ordinal : Fld Z h0 s3_EG "java/lang/Enum" "ordinal" "I" (.int (4 : Int32))) (NE_s1_AF_s3_EG : s1_AF ≠ s3_EG) (NE_s0_EX_s3_EG : s0_EX ≠ s3_EG) (NE_s2_EF_s3_EG : s2_EF ≠ s3_EG) (F_s4_EU_ordinal : Fld Z h0 s4_EU "java/lang/Enum" "ordinal" "I" (.int (6 : Int32))) (NE_s1_AF_s4_EU : s1_AF ≠ s4_EU) (NE_s0_EX_s4_EU : s0_EX ≠ s4_EU) (NE_s2_EF_s4_EU : s2_EF ≠ s4_EU) (NE_s3_EG_s4_EU : s3_EG ≠ s4_EU) (F_s5_AU_ordinal : Fld Z h0 s5_AU "java/lang/Enum" "ordinal" "I" (.int (7 : Int32))) (NE_s1_AF_s5_AU : s1_AF ≠ s5_AU) (NE_s0_EX_s5_AU : s0_EX ≠ s5_AU) (NE_s2_EF_s5_AU : s2_EF ≠ s5_AU) (NE_s3_EG_s5_AU : s3_EG ≠ s5_AU) (NE_s4_EU_s5_AU : s4_EU ≠ s5_AU) (F_s6_AX_ordinal : Fld Z h0 s6_AX "java/lang/Enum" "ordinal" "I" (.int (1 : Int32))) (NE_s1_AF_s6_AX : s1_AF ≠ s6_AX) (NE_s0_EX_s6_AX : s0_EX ≠ s6_AX) (NE_s2_EF_s6_AX : s2_EF ≠ s6_AX) (NE_s3_EG_s6_AX : s3_EG ≠ s6_AX) (NE_s4_EU_s6_AX : s4_EU ≠ s6_AX) (NE_s5_AU_s6_AX : s5_AU ≠ s6_AX) (F_s7_AG_ordinal : Fld Z h0 s7_AG "java/lang/Enum" "ordinal" "I" (.int (5 : Int32))) (NE_s1_AF_s7_AG : s1_AF ≠ s7_AG) (NE_s0_EX_s7_AG : s0_EX ≠ s7_AG) (NE_s2_EF_s7_AG : s2_EF ≠ s7_AG) (NE_s3_EG_s7_AG : s3_EG ≠ s7_AG) (NE_s4_EU_s7_AG : s4_EU ≠ s7_AG) (NE_s5_AU_s7_AG : s5_AU ≠ s7_AG) (NE_s6_AX_s7_AG : s6_AX ≠ s7_AG) :
    MetFree l x (head1 (Jvm.Cond.code x code maxLocals ret :: ws) room_1) (fun a U => a = #[(.int p1)] ∧ Z.Warmed39 U.vm ∧ U.heap = h0) (fun _ _ _ _ _ => True) (fun _ U o U' => ∃ v L, o = .returned v ∧ Q0 Z p1 s0_EX s1_AF s2_EF s3_EG s4_EU s5_AU s6_AX s7_AG h0 n0 v U'.heap L ∧ FrameEnd U o U' L room_1.cells room_1.slots) := by
  refine MetFree.of_bodySF (plainFor_of_name pn_0) hisR ?_
  intro p e s m args below meth c s₁ Bd hml0 hP hK
  obtain ⟨rfl, hZ, hh⟩ := hP
  have hx := Bd.exec
  have hby := Bd.bytes
  have hml : c.maxLocals = 4 := hml0
  have hown : s.vm.findClass "com/example/bonn/bonn/OperatorIsExistentialPinLaw" = some m.cls := findClass_of_methodNamed Bd.named
  have hnm := (name_of_methodNamed Bd.named Bd.method).1
  have X0 : Stand p l e room_1 s m #[(.int p1)] below meth c s₁ [] 0 0 := Stand.of_body Bd
  have e0 : s₁.heap = h0 := by rw [← hh, Bd.state]; rfl
  have N0 := Fr.nil n0
  have pre0 : ∀ t, Steps p.tables e below (s₁.setTop (mkF m 0 #[.val (.int p1), .unset, .unset, .unset] [])) t → Steps p.tables e below (s₁.setTop (entryFrame m #[(.int p1)] maxLocals)) t := fun t k => castTop (ef_0 m p1) k
  refine own_step (Q := fun o U' => ∃ v L, o = .returned v ∧ Q0 Z p1 s0_EX s1_AF s2_EF s3_EG s4_EU s5_AU s6_AX s7_AG h0 n0 v U'.heap L ∧ FrameEnd s o U' L room_1.cells room_1.slots) pre0 ?_
  have K0 : Keep h0 h0 [] := Keep.refl h0 []
  refine own_step (B := s₁.setTop (mkF m 5 #[.val (.int p1), .val (.int (p1 &&& (7 : Int32))), .unset, .unset] [])) (fun t k => ?_) ?_
  · show Steps p.tables e below (s₁.setTop (mkF m 0 #[.val (.int p1), .unset, .unset, .unset] [])) _
    refine XS.iloadN X0.here hx rfl (hb hby at_0) rfl ?_
    show Steps p.tables e below (s₁.setTop (mkF m 1 #[.val (.int p1), .unset, .unset, .unset] [(.int p1)])) _
    refine XS.bipush X0.here hx rfl (hb hby at_1) ?_
    show Steps p.tables e below (s₁.setTop (mkF m 3 #[.val (.int p1), .unset, .unset, .unset] [(.int (7 : Int32)), (.int p1)])) _
    refine XS.iand X0.here hx rfl (hb hby at_3) rfl ?_
    show Steps p.tables e below (s₁.setTop (mkF m 4 #[.val (.int p1), .unset, .unset, .unset] [(.int (p1 &&& (7 : Int32)))])) _
    refine XS.istoreN X0.here hx rfl (hb hby at_4) rfl (l' := #[.val (.int p1), .val (.int (p1 &&& (7 : Int32))), .unset, .unset]) rfl ?_
    exact k
  rcases own_m7 p1 with hk1 | hk1 | hk1 | hk1 | hk1 | hk1 | hk1 | hk1
  · rw [hk1]
    obtain ⟨_, _, ⟨T2, L2, k2, n2⟩, -, X2, ⟨Lc2, hQ2, l2, y2, z2⟩, st2⟩ := Jvm.LawKit.callS X0 hx (y := (⟨"com/example/bonn/bonn/OperatorIsExistentialPinLaw", "pick", "(I)Lcom/example/bonn/bonn/Formula$Operator;"⟩ : MethodName)) hown (mvT hZ (hw _ (List.mem_of_getElem? (i := 0) rfl))) (mvT hZ (hw _ (List.mem_of_getElem? (i := 1) rfl))) (mvT hZ (hw _ (List.mem_of_getElem? (i := 2) rfl))) (mvT hZ (hw _ (List.mem_of_getElem? (i := 3) rfl))) (by decide) (backOf (W := 0) (rm1 l Z a0 hw [] (0 : Int32) s0_EX s1_AF s2_EF s3_EG s4_EU s5_AU s6_AX s7_AG h0 n0 Z0 S_Formula_Operator_EX S_Formula_Operator_AF S_Formula_Operator_EF S_Formula_Operator_EG S_Formula_Operator_EU S_Formula_Operator_AU S_Formula_Operator_AX S_Formula_Operator_AG) hZ (hw _ (List.mem_of_getElem? (i := 3) rfl)) (hw _ (List.mem_of_getElem? (i := 2) rfl)) (by decide) (by decide)) (g := (mkF m 6 #[.val (.int p1), .val (.int (0 : Int32)), .unset, .unset] [(.int (0 : Int32))])) rfl (by rw [hml]; rfl) (argsL := [(.int (0 : Int32))]) (rest := []) (lenOf pd_0 rfl) rfl (by show 2 * 0 + _ ≤ _; exact Nat.le_of_eq rfl) (hb hby at_6) (fun _ _ => ⟨rfl, e0, (by decide : 0 + 0 ≤ _), (by decide : 0 + 0 ≤ _)⟩)
    dsimp only [Pt.U, Pt.locs, Pt.cells, Pt.slots] at X2 l2 y2 z2 st2 hQ2
    subst l2 y2 z2
    obtain ⟨hv2, N2q, e2⟩ := hQ2
    rw [show f1 (0 : Int32) s0_EX s1_AF s2_EF s3_EG s4_EU s5_AU s6_AX s7_AG = s0_EX from if_pos (by decide)] at hv2
    subst hv2
    have N2 := Fr.app N0 N2q
    have h3 : (0 : Int32) = (0 : Int32) := by decide
    obtain ⟨cq4, kq4, q4a, q4b, q4c⟩ := isOf hZ e2 E_s0_EX
    obtain ⟨_, _, ⟨T4, L4, k4, n4⟩, -, X4, ⟨Lc4, hQ4, l4, y4, z4⟩, st4⟩ := X2.virtualBack hx (y := (⟨"com/example/bonn/bonn/Formula$Operator", "isExistential", "()Z"⟩ : MethodName)) (z := (⟨"com/example/bonn/bonn/Formula$Operator", "isExistential", "()Z"⟩ : MethodName)) hown (mvT hZ (hw _ (List.mem_of_getElem? (i := 7) rfl))) (mvT hZ (hw _ (List.mem_of_getElem? (i := 8) rfl))) (notFace_of_selects (args := #[]) (mvT hZ (hw _ (List.mem_of_getElem? (i := 10) rfl)))) (mvT hZ (hw _ (List.mem_of_getElem? (i := 10) rfl))) (mvT hZ (hw _ (List.mem_of_getElem? (i := 9) rfl))) (by decide) (backOf (W := 0) (rm2 l Z a0 hw [] s0_EX s0_EX s1_AF s2_EF s3_EG s4_EU s5_AU s6_AX s7_AG h0 n0 Z0 S_Formula_Operator_EX S_Formula_Operator_AF S_Formula_Operator_EF S_Formula_Operator_EG S_Formula_Operator_EU S_Formula_Operator_AU S_Formula_Operator_AX S_Formula_Operator_AG) hZ (hw _ (List.mem_of_getElem? (i := 11) rfl)) (hw _ (List.mem_of_getElem? (i := 5) rfl)) (by decide) (by decide)) q4a q4c (g := (mkF m 37 #[.val (.int p1), .val (.int (0 : Int32)), .val (.ref s0_EX), .val (.int (1 : Int32))] [(.ref s0_EX)])) rfl (by rw [hml]; rfl) (Steps.refl _) (argsL := []) (rest := []) (lenOf pd_1 rfl) rfl (by show 2 * 0 + _ ≤ _; exact Nat.le_of_eq rfl) (hb hby at_37) (fun _ _ => ⟨rfl, e2, (by decide : 0 + 0 ≤ _), (by decide : 0 + 0 ≤ _)⟩)
    dsimp only [Pt.U, Pt.locs, Pt.cells, Pt.slots] at X4 l4 y4 z4 st4 hQ4
    subst l4 y4 z4
    obtain ⟨hv4, N4q, e4⟩ := hQ4
    rw [show f2 s0_EX s0_EX s1_AF s2_EF s3_EG s4_EU s5_AU s6_AX s7_AG = (1 : Int32) from if_pos rfl] at hv4
    subst hv4
    have N4 := Fr.app N2 N4q
    have h5 : (1 : Int32) = (1 : Int32) := by decide
    obtain ⟨fs, hr, hrun, hended, hW, hsame⟩ := X4.leave (v := some (.int (1 : Int32))) (fun h => by rw [Bd.returns] at h; cases h)
    refine ⟨_, _, ?_, hrun, hended, _, _, rfl, ?_, ⟨_, rfl⟩, hW, hsame.mono (by decide) (by decide)⟩
    · show Steps p.tables e below (s₁.setTop (mkF m 5 #[.val (.int p1), .val (.int (0 : Int32)), .unset, .unset] [])) _
      refine XS.iloadN X0.here hx rfl (hb hby at_5) rfl ?_
      show Steps p.tables e below (s₁.setTop (mkF m 6 #[.val (.int p1), .val (.int (0 : Int32)), .unset, .unset] [(.int (0 : Int32))])) _
      refine st2 _ ?_
      show Steps p.tables e below (T2.setTop (mkF m 9 #[.val (.int p1), .val (.int (0 : Int32)), .unset, .unset] [(.ref s0_EX)])) _
      refine XS.astoreN X2.here hx rfl (hb hby at_9) rfl rfl (l' := #[.val (.int p1), .val (.int (0 : Int32)), .val (.ref s0_EX), .unset]) rfl ?_
      show Steps p.tables e below (T2.setTop (mkF m 10 #[.val (.int p1), .val (.int (0 : Int32)), .val (.ref s0_EX), .unset] [])) _
      refine XS.iloadN X2.here hx rfl (hb hby at_10) rfl ?_
      show Steps p.tables e below (T2.setTop (mkF m 11 #[.val (.int p1), .val (.int (0 : Int32)), .val (.ref s0_EX), .unset] [(.int (0 : Int32))])) _
      refine XS.ifYes X2.here hx rfl (pc0 := 11) (pc' := 30) rfl (hb hby at_11) rfl ((if0 _ _).trans (teq h3).1) (by decide) (by decide) ?_
      show Steps p.tables e below (T2.setTop (mkF m 30 #[.val (.int p1), .val (.int (0 : Int32)), .val (.ref s0_EX), .unset] [])) _
      refine XS.iconst X2.here hx rfl (hb hby at_30) ?_
      show Steps p.tables e below (T2.setTop (mkF m 31 #[.val (.int p1), .val (.int (0 : Int32)), .val (.ref s0_EX), .unset] [(.int (1 : Int32))])) _
      refine XS.goto X2.here hx rfl (pc0 := 31) (pc' := 35) rfl (hb hby at_31) (by decide) (by decide) ?_
      show Steps p.tables e below (T2.setTop (mkF m 35 #[.val (.int p1), .val (.int (0 : Int32)), .val (.ref s0_EX), .unset] [(.int (1 : Int32))])) _
      refine XS.istoreN X2.here hx rfl (hb hby at_35) rfl (l' := #[.val (.int p1), .val (.int (0 : Int32)), .val (.ref s0_EX), .val (.int (1 : Int32))]) rfl ?_
      show Steps p.tables e below (T2.setTop (mkF m 36 #[.val (.int p1), .val (.int (0 : Int32)), .val (.ref s0_EX), .val (.int (1 : Int32))] [])) _
      refine XS.aloadN X2.here hx rfl (hb hby at_36) rfl rfl ?_
      show Steps p.tables e below (T2.setTop (mkF m 37 #[.val (.int p1), .val (.int (0 : Int32)), .val (.ref s0_EX), .val (.int (1 : Int32))] [(.ref s0_EX)])) _
      refine st4.trans ?_
      show Steps p.tables e below (T4.setTop (mkF m 40 #[.val (.int p1), .val (.int (0 : Int32)), .val (.ref s0_EX), .val (.int (1 : Int32))] [(.int (1 : Int32))])) _
      refine XS.iloadN X4.here hx rfl (hb hby at_40) rfl ?_
      show Steps p.tables e below (T4.setTop (mkF m 41 #[.val (.int p1), .val (.int (0 : Int32)), .val (.ref s0_EX), .val (.int (1 : Int32))] [(.int (1 : Int32)), (.int (1 : Int32))])) _
      refine XS.icmpNo X4.here hx rfl (hb hby at_41) rfl (teq h5).2 ?_
      show Steps p.tables e below (T4.setTop (mkF m 44 #[.val (.int p1), .val (.int (0 : Int32)), .val (.ref s0_EX), .val (.int (1 : Int32))] [])) _
      refine XS.iconst X4.here hx rfl (hb hby at_44) ?_
      show Steps p.tables e below (T4.setTop (mkF m 45 #[.val (.int p1), .val (.int (0 : Int32)), .val (.ref s0_EX), .val (.int (1 : Int32))] [(.int (1 : Int32))])) _
      refine XS.goto X4.here hx rfl (pc0 := 45) (pc' := 49) rfl (hb hby at_45) (by decide) (by decide) ?_
      show Steps p.tables e below (T4.setTop (mkF m 49 #[.val (.int p1), .val (.int (0 : Int32)), .val (.ref s0_EX), .val (.int (1 : Int32))] [(.int (1 : Int32))])) _
      exact retN X4 hx (t := .boolean) Bd.returns (by simp) (hb hby at_49) hr
    · show Q0 Z p1 s0_EX s1_AF s2_EF s3_EG s4_EU s5_AU s6_AX s7_AG h0 n0 _ T4.heap _
      rw [e4]
      exact ⟨rfl, N4⟩
  · rw [hk1]
    obtain ⟨_, _, ⟨T6, L6, k6, n6⟩, -, X6, ⟨Lc6, hQ6, l6, y6, z6⟩, st6⟩ := Jvm.LawKit.callS X0 hx (y := (⟨"com/example/bonn/bonn/OperatorIsExistentialPinLaw", "pick", "(I)Lcom/example/bonn/bonn/Formula$Operator;"⟩ : MethodName)) hown (mvT hZ (hw _ (List.mem_of_getElem? (i := 0) rfl))) (mvT hZ (hw _ (List.mem_of_getElem? (i := 1) rfl))) (mvT hZ (hw _ (List.mem_of_getElem? (i := 2) rfl))) (mvT hZ (hw _ (List.mem_of_getElem? (i := 3) rfl))) (by decide) (backOf (W := 0) (rm1 l Z a0 hw [] (1 : Int32) s0_EX s1_AF s2_EF s3_EG s4_EU s5_AU s6_AX s7_AG h0 n0 Z0 S_Formula_Operator_EX S_Formula_Operator_AF S_Formula_Operator_EF S_Formula_Operator_EG S_Formula_Operator_EU S_Formula_Operator_AU S_Formula_Operator_AX S_Formula_Operator_AG) hZ (hw _ (List.mem_of_getElem? (i := 3) rfl)) (hw _ (List.mem_of_getElem? (i := 2) rfl)) (by decide) (by decide)) (g := (mkF m 6 #[.val (.int p1), .val (.int (1 : Int32)), .unset, .unset] [(.int (1 : Int32))])) rfl (by rw [hml]; rfl) (argsL := [(.int (1 : Int32))]) (rest := []) (lenOf pd_0 rfl) rfl (by show 2 * 0 + _ ≤ _; exact Nat.le_of_eq rfl) (hb hby at_6) (fun _ _ => ⟨rfl, e0, (by decide : 0 + 0 ≤ _), (by decide : 0 + 0 ≤ _)⟩)
    dsimp only [Pt.U, Pt.locs, Pt.cells, Pt.slots] at X6 l6 y6 z6 st6 hQ6
    subst l6 y6 z6
    obtain ⟨hv6, N6q, e6⟩ := hQ6
    rw [show f1 (1 : Int32) s0_EX s1_AF s2_EF s3_EG s4_EU s5_AU s6_AX s7_AG = s6_AX from (if_neg (by decide)).trans (if_pos (by decide))] at hv6
    subst hv6
    have N6 := Fr.app N0 N6q
    have h7 : ¬ ((1 : Int32) = (0 : Int32)) := by decide
    have h8 : ¬ ((1 : Int32) = (2 : Int32)) := by decide
    have h9 : ¬ ((1 : Int32) = (4 : Int32)) := by decide
    have h10 : ¬ ((1 : Int32) = (6 : Int32)) := by decide
    obtain ⟨cq11, kq11, q11a, q11b, q11c⟩ := isOf hZ e6 E_s6_AX
    obtain ⟨_, _, ⟨T11, L11, k11, n11⟩, -, X11, ⟨Lc11, hQ11, l11, y11, z11⟩, st11⟩ := X6.virtualBack hx (y := (⟨"com/example/bonn/bonn/Formula$Operator", "isExistential", "()Z"⟩ : MethodName)) (z := (⟨"com/example/bonn/bonn/Formula$Operator", "isExistential", "()Z"⟩ : MethodName)) hown (mvT hZ (hw _ (List.mem_of_getElem? (i := 7) rfl))) (mvT hZ (hw _ (List.mem_of_getElem? (i := 8) rfl))) (notFace_of_selects (args := #[]) (mvT hZ (hw _ (List.mem_of_getElem? (i := 10) rfl)))) (mvT hZ (hw _ (List.mem_of_getElem? (i := 10) rfl))) (mvT hZ (hw _ (List.mem_of_getElem? (i := 9) rfl))) (by decide) (backOf (W := 0) (rm2 l Z a0 hw [] s6_AX s0_EX s1_AF s2_EF s3_EG s4_EU s5_AU s6_AX s7_AG h0 n0 Z0 S_Formula_Operator_EX S_Formula_Operator_AF S_Formula_Operator_EF S_Formula_Operator_EG S_Formula_Operator_EU S_Formula_Operator_AU S_Formula_Operator_AX S_Formula_Operator_AG) hZ (hw _ (List.mem_of_getElem? (i := 11) rfl)) (hw _ (List.mem_of_getElem? (i := 5) rfl)) (by decide) (by decide)) q11a q11c (g := (mkF m 37 #[.val (.int p1), .val (.int (1 : Int32)), .val (.ref s6_AX), .val (.int (0 : Int32))] [(.ref s6_AX)])) rfl (by rw [hml]; rfl) (Steps.refl _) (argsL := []) (rest := []) (lenOf pd_1 rfl) rfl (by show 2 * 0 + _ ≤ _; exact Nat.le_of_eq rfl) (hb hby at_37) (fun _ _ => ⟨rfl, e6, (by decide : 0 + 0 ≤ _), (by decide : 0 + 0 ≤ _)⟩)
    dsimp only [Pt.U, Pt.locs, Pt.cells, Pt.slots] at X11 l11 y11 z11 st11 hQ11
    subst l11 y11 z11
    obtain ⟨hv11, N11q, e11⟩ := hQ11
    rw [show f2 s6_AX s0_EX s1_AF s2_EF s3_EG s4_EU s5_AU s6_AX s7_AG = (0 : Int32) from (if_neg (Ne.symm NE_s0_EX_s6_AX)).trans ((if_neg (Ne.symm NE_s2_EF_s6_AX)).trans ((if_neg (Ne.symm NE_s3_EG_s6_AX)).trans (if_neg (Ne.symm NE_s4_EU_s6_AX))))] at hv11
    subst hv11
    have N11 := Fr.app N6 N11q
    have h12 : (0 : Int32) = (0 : Int32) := by decide
    obtain ⟨fs, hr, hrun, hended, hW, hsame⟩ := X11.leave (v := some (.int (1 : Int32))) (fun h => by rw [Bd.returns] at h; cases h)
    refine ⟨_, _, ?_, hrun, hended, _, _, rfl, ?_, ⟨_, rfl⟩, hW, hsame.mono (by decide) (by decide)⟩
    · show Steps p.tables e below (s₁.setTop (mkF m 5 #[.val (.int p1), .val (.int (1 : Int32)), .unset, .unset] [])) _
      refine XS.iloadN X0.here hx rfl (hb hby at_5) rfl ?_
      show Steps p.tables e below (s₁.setTop (mkF m 6 #[.val (.int p1), .val (.int (1 : Int32)), .unset, .unset] [(.int (1 : Int32))])) _
      refine st6 _ ?_
      show Steps p.tables e below (T6.setTop (mkF m 9 #[.val (.int p1), .val (.int (1 : Int32)), .unset, .unset] [(.ref s6_AX)])) _
      refine XS.astoreN X6.here hx rfl (hb hby at_9) rfl rfl (l' := #[.val (.int p1), .val (.int (1 : Int32)), .val (.ref s6_AX), .unset]) rfl ?_
      show Steps p.tables e below (T6.setTop (mkF m 10 #[.val (.int p1), .val (.int (1 : Int32)), .val (.ref s6_AX), .unset] [])) _
      refine XS.iloadN X6.here hx rfl (hb hby at_10) rfl ?_
      show Steps p.tables e below (T6.setTop (mkF m 11 #[.val (.int p1), .val (.int (1 : Int32)), .val (.ref s6_AX), .unset] [(.int (1 : Int32))])) _
      refine XS.ifNo X6.here hx rfl (hb hby at_11) rfl ((if0 _ _).trans (feq h7).1) ?_
      show Steps p.tables e below (T6.setTop (mkF m 14 #[.val (.int p1), .val (.int (1 : Int32)), .val (.ref s6_AX), .unset] [])) _
      refine XS.iloadN X6.here hx rfl (hb hby at_14) rfl ?_
      show Steps p.tables e below (T6.setTop (mkF m 15 #[.val (.int p1), .val (.int (1 : Int32)), .val (.ref s6_AX), .unset] [(.int (1 : Int32))])) _
      refine XS.iconst X6.here hx rfl (hb hby at_15) ?_
      show Steps p.tables e below (T6.setTop (mkF m 16 #[.val (.int p1), .val (.int (1 : Int32)), .val (.ref s6_AX), .unset] [(.int (2 : Int32)), (.int (1 : Int32))])) _
      refine XS.icmpNo X6.here hx rfl (hb hby at_16) rfl (feq h8).1 ?_
      show Steps p.tables e below (T6.setTop (mkF m 19 #[.val (.int p1), .val (.int (1 : Int32)), .val (.ref s6_AX), .unset] [])) _
      refine XS.iloadN X6.here hx rfl (hb hby at_19) rfl ?_
      show Steps p.tables e below (T6.setTop (mkF m 20 #[.val (.int p1), .val (.int (1 : Int32)), .val (.ref s6_AX), .unset] [(.int (1 : Int32))])) _
      refine XS.iconst X6.here hx rfl (hb hby at_20) ?_
      show Steps p.tables e below (T6.setTop (mkF m 21 #[.val (.int p1), .val (.int (1 : Int32)), .val (.ref s6_AX), .unset] [(.int (4 : Int32)), (.int (1 : Int32))])) _
      refine XS.icmpNo X6.here hx rfl (hb hby at_21) rfl (feq h9).1 ?_
      show Steps p.tables e below (T6.setTop (mkF m 24 #[.val (.int p1), .val (.int (1 : Int32)), .val (.ref s6_AX), .unset] [])) _
      refine XS.iloadN X6.here hx rfl (hb hby at_24) rfl ?_
      show Steps p.tables e below (T6.setTop (mkF m 25 #[.val (.int p1), .val (.int (1 : Int32)), .val (.ref s6_AX), .unset] [(.int (1 : Int32))])) _
      refine XS.bipush X6.here hx rfl (hb hby at_25) ?_
      show Steps p.tables e below (T6.setTop (mkF m 27 #[.val (.int p1), .val (.int (1 : Int32)), .val (.ref s6_AX), .unset] [(.int (6 : Int32)), (.int (1 : Int32))])) _
      refine XS.icmpYes X6.here hx rfl (pc0 := 27) (pc' := 34) rfl (hb hby at_27) rfl (feq h10).2 (by decide) (by decide) ?_
      show Steps p.tables e below (T6.setTop (mkF m 34 #[.val (.int p1), .val (.int (1 : Int32)), .val (.ref s6_AX), .unset] [])) _
      refine XS.iconst X6.here hx rfl (hb hby at_34) ?_
      show Steps p.tables e below (T6.setTop (mkF m 35 #[.val (.int p1), .val (.int (1 : Int32)), .val (.ref s6_AX), .unset] [(.int (0 : Int32))])) _
      refine XS.istoreN X6.here hx rfl (hb hby at_35) rfl (l' := #[.val (.int p1), .val (.int (1 : Int32)), .val (.ref s6_AX), .val (.int (0 : Int32))]) rfl ?_
      show Steps p.tables e below (T6.setTop (mkF m 36 #[.val (.int p1), .val (.int (1 : Int32)), .val (.ref s6_AX), .val (.int (0 : Int32))] [])) _
      refine XS.aloadN X6.here hx rfl (hb hby at_36) rfl rfl ?_
      show Steps p.tables e below (T6.setTop (mkF m 37 #[.val (.int p1), .val (.int (1 : Int32)), .val (.ref s6_AX), .val (.int (0 : Int32))] [(.ref s6_AX)])) _
      refine st11.trans ?_
      show Steps p.tables e below (T11.setTop (mkF m 40 #[.val (.int p1), .val (.int (1 : Int32)), .val (.ref s6_AX), .val (.int (0 : Int32))] [(.int (0 : Int32))])) _
      refine XS.iloadN X11.here hx rfl (hb hby at_40) rfl ?_
      show Steps p.tables e below (T11.setTop (mkF m 41 #[.val (.int p1), .val (.int (1 : Int32)), .val (.ref s6_AX), .val (.int (0 : Int32))] [(.int (0 : Int32)), (.int (0 : Int32))])) _
      refine XS.icmpNo X11.here hx rfl (hb hby at_41) rfl (teq h12).2 ?_
      show Steps p.tables e below (T11.setTop (mkF m 44 #[.val (.int p1), .val (.int (1 : Int32)), .val (.ref s6_AX), .val (.int (0 : Int32))] [])) _
      refine XS.iconst X11.here hx rfl (hb hby at_44) ?_
      show Steps p.tables e below (T11.setTop (mkF m 45 #[.val (.int p1), .val (.int (1 : Int32)), .val (.ref s6_AX), .val (.int (0 : Int32))] [(.int (1 : Int32))])) _
      refine XS.goto X11.here hx rfl (pc0 := 45) (pc' := 49) rfl (hb hby at_45) (by decide) (by decide) ?_
      show Steps p.tables e below (T11.setTop (mkF m 49 #[.val (.int p1), .val (.int (1 : Int32)), .val (.ref s6_AX), .val (.int (0 : Int32))] [(.int (1 : Int32))])) _
      exact retN X11 hx (t := .boolean) Bd.returns (by simp) (hb hby at_49) hr
    · show Q0 Z p1 s0_EX s1_AF s2_EF s3_EG s4_EU s5_AU s6_AX s7_AG h0 n0 _ T11.heap _
      rw [e11]
      exact ⟨rfl, N11⟩
  · rw [hk1]
    obtain ⟨_, _, ⟨T13, L13, k13, n13⟩, -, X13, ⟨Lc13, hQ13, l13, y13, z13⟩, st13⟩ := Jvm.LawKit.callS X0 hx (y := (⟨"com/example/bonn/bonn/OperatorIsExistentialPinLaw", "pick", "(I)Lcom/example/bonn/bonn/Formula$Operator;"⟩ : MethodName)) hown (mvT hZ (hw _ (List.mem_of_getElem? (i := 0) rfl))) (mvT hZ (hw _ (List.mem_of_getElem? (i := 1) rfl))) (mvT hZ (hw _ (List.mem_of_getElem? (i := 2) rfl))) (mvT hZ (hw _ (List.mem_of_getElem? (i := 3) rfl))) (by decide) (backOf (W := 0) (rm1 l Z a0 hw [] (2 : Int32) s0_EX s1_AF s2_EF s3_EG s4_EU s5_AU s6_AX s7_AG h0 n0 Z0 S_Formula_Operator_EX S_Formula_Operator_AF S_Formula_Operator_EF S_Formula_Operator_EG S_Formula_Operator_EU S_Formula_Operator_AU S_Formula_Operator_AX S_Formula_Operator_AG) hZ (hw _ (List.mem_of_getElem? (i := 3) rfl)) (hw _ (List.mem_of_getElem? (i := 2) rfl)) (by decide) (by decide)) (g := (mkF m 6 #[.val (.int p1), .val (.int (2 : Int32)), .unset, .unset] [(.int (2 : Int32))])) rfl (by rw [hml]; rfl) (argsL := [(.int (2 : Int32))]) (rest := []) (lenOf pd_0 rfl) rfl (by show 2 * 0 + _ ≤ _; exact Nat.le_of_eq rfl) (hb hby at_6) (fun _ _ => ⟨rfl, e0, (by decide : 0 + 0 ≤ _), (by decide : 0 + 0 ≤ _)⟩)
    dsimp only [Pt.U, Pt.locs, Pt.cells, Pt.slots] at X13 l13 y13 z13 st13 hQ13
    subst l13 y13 z13
    obtain ⟨hv13, N13q, e13⟩ := hQ13
    rw [show f1 (2 : Int32) s0_EX s1_AF s2_EF s3_EG s4_EU s5_AU s6_AX s7_AG = s2_EF from (if_neg (by decide)).trans ((if_neg (by decide)).trans (if_pos (by decide)))] at hv13
    subst hv13
    have N13 := Fr.app N0 N13q
    have h14 : ¬ ((2 : Int32) = (0 : Int32)) := by decide
    have h15 : (2 : Int32) = (2 : Int32) := by decide
    obtain ⟨cq16, kq16, q16a, q16b, q16c⟩ := isOf hZ e13 E_s2_EF
    obtain ⟨_, _, ⟨T16, L16, k16, n16⟩, -, X16, ⟨Lc16, hQ16, l16, y16, z16⟩, st16⟩ := X13.virtualBack hx (y := (⟨"com/example/bonn/bonn/Formula$Operator", "isExistential", "()Z"⟩ : MethodName)) (z := (⟨"com/example/bonn/bonn/Formula$Operator", "isExistential", "()Z"⟩ : MethodName)) hown (mvT hZ (hw _ (List.mem_of_getElem? (i := 7) rfl))) (mvT hZ (hw _ (List.mem_of_getElem? (i := 8) rfl))) (notFace_of_selects (args := #[]) (mvT hZ (hw _ (List.mem_of_getElem? (i := 10) rfl)))) (mvT hZ (hw _ (List.mem_of_getElem? (i := 10) rfl))) (mvT hZ (hw _ (List.mem_of_getElem? (i := 9) rfl))) (by decide) (backOf (W := 0) (rm2 l Z a0 hw [] s2_EF s0_EX s1_AF s2_EF s3_EG s4_EU s5_AU s6_AX s7_AG h0 n0 Z0 S_Formula_Operator_EX S_Formula_Operator_AF S_Formula_Operator_EF S_Formula_Operator_EG S_Formula_Operator_EU S_Formula_Operator_AU S_Formula_Operator_AX S_Formula_Operator_AG) hZ (hw _ (List.mem_of_getElem? (i := 11) rfl)) (hw _ (List.mem_of_getElem? (i := 5) rfl)) (by decide) (by decide)) q16a q16c (g := (mkF m 37 #[.val (.int p1), .val (.int (2 : Int32)), .val (.ref s2_EF), .val (.int (1 : Int32))] [(.ref s2_EF)])) rfl (by rw [hml]; rfl) (Steps.refl _) (argsL := []) (rest := []) (lenOf pd_1 rfl) rfl (by show 2 * 0 + _ ≤ _; exact Nat.le_of_eq rfl) (hb hby at_37) (fun _ _ => ⟨rfl, e13, (by decide : 0 + 0 ≤ _), (by decide : 0 + 0 ≤ _)⟩)
    dsimp only [Pt.U, Pt.locs, Pt.cells, Pt.slots] at X16 l16 y16 z16 st16 hQ16
    subst l16 y16 z16
    obtain ⟨hv16, N16q, e16⟩ := hQ16
    rw [show f2 s2_EF s0_EX s1_AF s2_EF s3_EG s4_EU s5_AU s6_AX s7_AG = (1 : Int32) from (if_neg (Ne.symm NE_s0_EX_s2_EF)).trans (if_pos rfl)] at hv16
    subst hv16
    have N16 := Fr.app N13 N16q
    have h17 : (1 : Int32) = (1 : Int32) := by decide
    obtain ⟨fs, hr, hrun, hended, hW, hsame⟩ := X16.leave (v := some (.int (1 : Int32))) (fun h => by rw [Bd.returns] at h; cases h)
    refine ⟨_, _, ?_, hrun, hended, _, _, rfl, ?_, ⟨_, rfl⟩, hW, hsame.mono (by decide) (by decide)⟩
    · show Steps p.tables e below (s₁.setTop (mkF m 5 #[.val (.int p1), .val (.int (2 : Int32)), .unset, .unset] [])) _
      refine XS.iloadN X0.here hx rfl (hb hby at_5) rfl ?_
      show Steps p.tables e below (s₁.setTop (mkF m 6 #[.val (.int p1), .val (.int (2 : Int32)), .unset, .unset] [(.int (2 : Int32))])) _
      refine st13 _ ?_
      show Steps p.tables e below (T13.setTop (mkF m 9 #[.val (.int p1), .val (.int (2 : Int32)), .unset, .unset] [(.ref s2_EF)])) _
      refine XS.astoreN X13.here hx rfl (hb hby at_9) rfl rfl (l' := #[.val (.int p1), .val (.int (2 : Int32)), .val (.ref s2_EF), .unset]) rfl ?_
      show Steps p.tables e below (T13.setTop (mkF m 10 #[.val (.int p1), .val (.int (2 : Int32)), .val (.ref s2_EF), .unset] [])) _
      refine XS.iloadN X13.here hx rfl (hb hby at_10) rfl ?_
      show Steps p.tables e below (T13.setTop (mkF m 11 #[.val (.int p1), .val (.int (2 : Int32)), .val (.ref s2_EF), .unset] [(.int (2 : Int32))])) _
      refine XS.ifNo X13.here hx rfl (hb hby at_11) rfl ((if0 _ _).trans (feq h14).1) ?_
      show Steps p.tables e below (T13.setTop (mkF m 14 #[.val (.int p1), .val (.int (2 : Int32)), .val (.ref s2_EF), .unset] [])) _
      refine XS.iloadN X13.here hx rfl (hb hby at_14) rfl ?_
      show Steps p.tables e below (T13.setTop (mkF m 15 #[.val (.int p1), .val (.int (2 : Int32)), .val (.ref s2_EF), .unset] [(.int (2 : Int32))])) _
      refine XS.iconst X13.here hx rfl (hb hby at_15) ?_
      show Steps p.tables e below (T13.setTop (mkF m 16 #[.val (.int p1), .val (.int (2 : Int32)), .val (.ref s2_EF), .unset] [(.int (2 : Int32)), (.int (2 : Int32))])) _
      refine XS.icmpYes X13.here hx rfl (pc0 := 16) (pc' := 30) rfl (hb hby at_16) rfl (teq h15).1 (by decide) (by decide) ?_
      show Steps p.tables e below (T13.setTop (mkF m 30 #[.val (.int p1), .val (.int (2 : Int32)), .val (.ref s2_EF), .unset] [])) _
      refine XS.iconst X13.here hx rfl (hb hby at_30) ?_
      show Steps p.tables e below (T13.setTop (mkF m 31 #[.val (.int p1), .val (.int (2 : Int32)), .val (.ref s2_EF), .unset] [(.int (1 : Int32))])) _
      refine XS.goto X13.here hx rfl (pc0 := 31) (pc' := 35) rfl (hb hby at_31) (by decide) (by decide) ?_
      show Steps p.tables e below (T13.setTop (mkF m 35 #[.val (.int p1), .val (.int (2 : Int32)), .val (.ref s2_EF), .unset] [(.int (1 : Int32))])) _
      refine XS.istoreN X13.here hx rfl (hb hby at_35) rfl (l' := #[.val (.int p1), .val (.int (2 : Int32)), .val (.ref s2_EF), .val (.int (1 : Int32))]) rfl ?_
      show Steps p.tables e below (T13.setTop (mkF m 36 #[.val (.int p1), .val (.int (2 : Int32)), .val (.ref s2_EF), .val (.int (1 : Int32))] [])) _
      refine XS.aloadN X13.here hx rfl (hb hby at_36) rfl rfl ?_
      show Steps p.tables e below (T13.setTop (mkF m 37 #[.val (.int p1), .val (.int (2 : Int32)), .val (.ref s2_EF), .val (.int (1 : Int32))] [(.ref s2_EF)])) _
      refine st16.trans ?_
      show Steps p.tables e below (T16.setTop (mkF m 40 #[.val (.int p1), .val (.int (2 : Int32)), .val (.ref s2_EF), .val (.int (1 : Int32))] [(.int (1 : Int32))])) _
      refine XS.iloadN X16.here hx rfl (hb hby at_40) rfl ?_
      show Steps p.tables e below (T16.setTop (mkF m 41 #[.val (.int p1), .val (.int (2 : Int32)), .val (.ref s2_EF), .val (.int (1 : Int32))] [(.int (1 : Int32)), (.int (1 : Int32))])) _
      refine XS.icmpNo X16.here hx rfl (hb hby at_41) rfl (teq h17).2 ?_
      show Steps p.tables e below (T16.setTop (mkF m 44 #[.val (.int p1), .val (.int (2 : Int32)), .val (.ref s2_EF), .val (.int (1 : Int32))] [])) _
      refine XS.iconst X16.here hx rfl (hb hby at_44) ?_
      show Steps p.tables e below (T16.setTop (mkF m 45 #[.val (.int p1), .val (.int (2 : Int32)), .val (.ref s2_EF), .val (.int (1 : Int32))] [(.int (1 : Int32))])) _
      refine XS.goto X16.here hx rfl (pc0 := 45) (pc' := 49) rfl (hb hby at_45) (by decide) (by decide) ?_
      show Steps p.tables e below (T16.setTop (mkF m 49 #[.val (.int p1), .val (.int (2 : Int32)), .val (.ref s2_EF), .val (.int (1 : Int32))] [(.int (1 : Int32))])) _
      exact retN X16 hx (t := .boolean) Bd.returns (by simp) (hb hby at_49) hr
    · show Q0 Z p1 s0_EX s1_AF s2_EF s3_EG s4_EU s5_AU s6_AX s7_AG h0 n0 _ T16.heap _
      rw [e16]
      exact ⟨rfl, N16⟩
  · rw [hk1]
    obtain ⟨_, _, ⟨T18, L18, k18, n18⟩, -, X18, ⟨Lc18, hQ18, l18, y18, z18⟩, st18⟩ := Jvm.LawKit.callS X0 hx (y := (⟨"com/example/bonn/bonn/OperatorIsExistentialPinLaw", "pick", "(I)Lcom/example/bonn/bonn/Formula$Operator;"⟩ : MethodName)) hown (mvT hZ (hw _ (List.mem_of_getElem? (i := 0) rfl))) (mvT hZ (hw _ (List.mem_of_getElem? (i := 1) rfl))) (mvT hZ (hw _ (List.mem_of_getElem? (i := 2) rfl))) (mvT hZ (hw _ (List.mem_of_getElem? (i := 3) rfl))) (by decide) (backOf (W := 0) (rm1 l Z a0 hw [] (3 : Int32) s0_EX s1_AF s2_EF s3_EG s4_EU s5_AU s6_AX s7_AG h0 n0 Z0 S_Formula_Operator_EX S_Formula_Operator_AF S_Formula_Operator_EF S_Formula_Operator_EG S_Formula_Operator_EU S_Formula_Operator_AU S_Formula_Operator_AX S_Formula_Operator_AG) hZ (hw _ (List.mem_of_getElem? (i := 3) rfl)) (hw _ (List.mem_of_getElem? (i := 2) rfl)) (by decide) (by decide)) (g := (mkF m 6 #[.val (.int p1), .val (.int (3 : Int32)), .unset, .unset] [(.int (3 : Int32))])) rfl (by rw [hml]; rfl) (argsL := [(.int (3 : Int32))]) (rest := []) (lenOf pd_0 rfl) rfl (by show 2 * 0 + _ ≤ _; exact Nat.le_of_eq rfl) (hb hby at_6) (fun _ _ => ⟨rfl, e0, (by decide : 0 + 0 ≤ _), (by decide : 0 + 0 ≤ _)⟩)
    dsimp only [Pt.U, Pt.locs, Pt.cells, Pt.slots] at X18 l18 y18 z18 st18 hQ18
    subst l18 y18 z18
    obtain ⟨hv18, N18q, e18⟩ := hQ18
    rw [show f1 (3 : Int32) s0_EX s1_AF s2_EF s3_EG s4_EU s5_AU s6_AX s7_AG = s1_AF from (if_neg (by decide)).trans ((if_neg (by decide)).trans ((if_neg (by decide)).trans (if_pos (by decide))))] at hv18
    subst hv18
    have N18 := Fr.app N0 N18q
    have h19 : ¬ ((3 : Int32) = (0 : Int32)) := by decide
    have h20 : ¬ ((3 : Int32) = (2 : Int32)) := by decide
    have h21 : ¬ ((3 : Int32) = (4 : Int32)) := by decide
    have h22 : ¬ ((3 : Int32) = (6 : Int32)) := by decide
    obtain ⟨cq23, kq23, q23a, q23b, q23c⟩ := isOf hZ e18 E_s1_AF
    obtain ⟨_, _, ⟨T23, L23, k23, n23⟩, -, X23, ⟨Lc23, hQ23, l23, y23, z23⟩, st23⟩ := X18.virtualBack hx (y := (⟨"com/example/bonn/bonn/Formula$Operator", "isExistential", "()Z"⟩ : MethodName)) (z := (⟨"com/example/bonn/bonn/Formula$Operator", "isExistential", "()Z"⟩ : MethodName)) hown (mvT hZ (hw _ (List.mem_of_getElem? (i := 7) rfl))) (mvT hZ (hw _ (List.mem_of_getElem? (i := 8) rfl))) (notFace_of_selects (args := #[]) (mvT hZ (hw _ (List.mem_of_getElem? (i := 10) rfl)))) (mvT hZ (hw _ (List.mem_of_getElem? (i := 10) rfl))) (mvT hZ (hw _ (List.mem_of_getElem? (i := 9) rfl))) (by decide) (backOf (W := 0) (rm2 l Z a0 hw [] s1_AF s0_EX s1_AF s2_EF s3_EG s4_EU s5_AU s6_AX s7_AG h0 n0 Z0 S_Formula_Operator_EX S_Formula_Operator_AF S_Formula_Operator_EF S_Formula_Operator_EG S_Formula_Operator_EU S_Formula_Operator_AU S_Formula_Operator_AX S_Formula_Operator_AG) hZ (hw _ (List.mem_of_getElem? (i := 11) rfl)) (hw _ (List.mem_of_getElem? (i := 5) rfl)) (by decide) (by decide)) q23a q23c (g := (mkF m 37 #[.val (.int p1), .val (.int (3 : Int32)), .val (.ref s1_AF), .val (.int (0 : Int32))] [(.ref s1_AF)])) rfl (by rw [hml]; rfl) (Steps.refl _) (argsL := []) (rest := []) (lenOf pd_1 rfl) rfl (by show 2 * 0 + _ ≤ _; exact Nat.le_of_eq rfl) (hb hby at_37) (fun _ _ => ⟨rfl, e18, (by decide : 0 + 0 ≤ _), (by decide : 0 + 0 ≤ _)⟩)
    dsimp only [Pt.U, Pt.locs, Pt.cells, Pt.slots] at X23 l23 y23 z23 st23 hQ23
    subst l23 y23 z23
    obtain ⟨hv23, N23q, e23⟩ := hQ23
    rw [show f2 s1_AF s0_EX s1_AF s2_EF s3_EG s4_EU s5_AU s6_AX s7_AG = (0 : Int32) from (if_neg NE_s1_AF_s0_EX).trans ((if_neg NE_s1_AF_s2_EF).trans ((if_neg NE_s1_AF_s3_EG).trans (if_neg NE_s1_AF_s4_EU)))] at hv23
    subst hv23
    have N23 := Fr.app N18 N23q
    have h24 : (0 : Int32) = (0 : Int32) := by decide
    obtain ⟨fs, hr, hrun, hended, hW, hsame⟩ := X23.leave (v := some (.int (1 : Int32))) (fun h => by rw [Bd.returns] at h; cases h)
    refine ⟨_, _, ?_, hrun, hended, _, _, rfl, ?_, ⟨_, rfl⟩, hW, hsame.mono (by decide) (by decide)⟩
    · show Steps p.tables e below (s₁.setTop (mkF m 5 #[.val (.int p1), .val (.int (3 : Int32)), .unset, .unset] [])) _
      refine XS.iloadN X0.here hx rfl (hb hby at_5) rfl ?_
      show Steps p.tables e below (s₁.setTop (mkF m 6 #[.val (.int p1), .val (.int (3 : Int32)), .unset, .unset] [(.int (3 : Int32))])) _
      refine st18 _ ?_
      show Steps p.tables e below (T18.setTop (mkF m 9 #[.val (.int p1), .val (.int (3 : Int32)), .unset, .unset] [(.ref s1_AF)])) _
      refine XS.astoreN X18.here hx rfl (hb hby at_9) rfl rfl (l' := #[.val (.int p1), .val (.int (3 : Int32)), .val (.ref s1_AF), .unset]) rfl ?_
      show Steps p.tables e below (T18.setTop (mkF m 10 #[.val (.int p1), .val (.int (3 : Int32)), .val (.ref s1_AF), .unset] [])) _
      refine XS.iloadN X18.here hx rfl (hb hby at_10) rfl ?_
      show Steps p.tables e below (T18.setTop (mkF m 11 #[.val (.int p1), .val (.int (3 : Int32)), .val (.ref s1_AF), .unset] [(.int (3 : Int32))])) _
      refine XS.ifNo X18.here hx rfl (hb hby at_11) rfl ((if0 _ _).trans (feq h19).1) ?_
      show Steps p.tables e below (T18.setTop (mkF m 14 #[.val (.int p1), .val (.int (3 : Int32)), .val (.ref s1_AF), .unset] [])) _
      refine XS.iloadN X18.here hx rfl (hb hby at_14) rfl ?_
      show Steps p.tables e below (T18.setTop (mkF m 15 #[.val (.int p1), .val (.int (3 : Int32)), .val (.ref s1_AF), .unset] [(.int (3 : Int32))])) _
      refine XS.iconst X18.here hx rfl (hb hby at_15) ?_
      show Steps p.tables e below (T18.setTop (mkF m 16 #[.val (.int p1), .val (.int (3 : Int32)), .val (.ref s1_AF), .unset] [(.int (2 : Int32)), (.int (3 : Int32))])) _
      refine XS.icmpNo X18.here hx rfl (hb hby at_16) rfl (feq h20).1 ?_
      show Steps p.tables e below (T18.setTop (mkF m 19 #[.val (.int p1), .val (.int (3 : Int32)), .val (.ref s1_AF), .unset] [])) _
      refine XS.iloadN X18.here hx rfl (hb hby at_19) rfl ?_
      show Steps p.tables e below (T18.setTop (mkF m 20 #[.val (.int p1), .val (.int (3 : Int32)), .val (.ref s1_AF), .unset] [(.int (3 : Int32))])) _
      refine XS.iconst X18.here hx rfl (hb hby at_20) ?_
      show Steps p.tables e below (T18.setTop (mkF m 21 #[.val (.int p1), .val (.int (3 : Int32)), .val (.ref s1_AF), .unset] [(.int (4 : Int32)), (.int (3 : Int32))])) _
      refine XS.icmpNo X18.here hx rfl (hb hby at_21) rfl (feq h21).1 ?_
      show Steps p.tables e below (T18.setTop (mkF m 24 #[.val (.int p1), .val (.int (3 : Int32)), .val (.ref s1_AF), .unset] [])) _
      refine XS.iloadN X18.here hx rfl (hb hby at_24) rfl ?_
      show Steps p.tables e below (T18.setTop (mkF m 25 #[.val (.int p1), .val (.int (3 : Int32)), .val (.ref s1_AF), .unset] [(.int (3 : Int32))])) _
      refine XS.bipush X18.here hx rfl (hb hby at_25) ?_
      show Steps p.tables e below (T18.setTop (mkF m 27 #[.val (.int p1), .val (.int (3 : Int32)), .val (.ref s1_AF), .unset] [(.int (6 : Int32)), (.int (3 : Int32))])) _
      refine XS.icmpYes X18.here hx rfl (pc0 := 27) (pc' := 34) rfl (hb hby at_27) rfl (feq h22).2 (by decide) (by decide) ?_
      show Steps p.tables e below (T18.setTop (mkF m 34 #[.val (.int p1), .val (.int (3 : Int32)), .val (.ref s1_AF), .unset] [])) _
      refine XS.iconst X18.here hx rfl (hb hby at_34) ?_
      show Steps p.tables e below (T18.setTop (mkF m 35 #[.val (.int p1), .val (.int (3 : Int32)), .val (.ref s1_AF), .unset] [(.int (0 : Int32))])) _
      refine XS.istoreN X18.here hx rfl (hb hby at_35) rfl (l' := #[.val (.int p1), .val (.int (3 : Int32)), .val (.ref s1_AF), .val (.int (0 : Int32))]) rfl ?_
      show Steps p.tables e below (T18.setTop (mkF m 36 #[.val (.int p1), .val (.int (3 : Int32)), .val (.ref s1_AF), .val (.int (0 : Int32))] [])) _
      refine XS.aloadN X18.here hx rfl (hb hby at_36) rfl rfl ?_
      show Steps p.tables e below (T18.setTop (mkF m 37 #[.val (.int p1), .val (.int (3 : Int32)), .val (.ref s1_AF), .val (.int (0 : Int32))] [(.ref s1_AF)])) _
      refine st23.trans ?_
      show Steps p.tables e below (T23.setTop (mkF m 40 #[.val (.int p1), .val (.int (3 : Int32)), .val (.ref s1_AF), .val (.int (0 : Int32))] [(.int (0 : Int32))])) _
      refine XS.iloadN X23.here hx rfl (hb hby at_40) rfl ?_
      show Steps p.tables e below (T23.setTop (mkF m 41 #[.val (.int p1), .val (.int (3 : Int32)), .val (.ref s1_AF), .val (.int (0 : Int32))] [(.int (0 : Int32)), (.int (0 : Int32))])) _
      refine XS.icmpNo X23.here hx rfl (hb hby at_41) rfl (teq h24).2 ?_
      show Steps p.tables e below (T23.setTop (mkF m 44 #[.val (.int p1), .val (.int (3 : Int32)), .val (.ref s1_AF), .val (.int (0 : Int32))] [])) _
      refine XS.iconst X23.here hx rfl (hb hby at_44) ?_
      show Steps p.tables e below (T23.setTop (mkF m 45 #[.val (.int p1), .val (.int (3 : Int32)), .val (.ref s1_AF), .val (.int (0 : Int32))] [(.int (1 : Int32))])) _
      refine XS.goto X23.here hx rfl (pc0 := 45) (pc' := 49) rfl (hb hby at_45) (by decide) (by decide) ?_
      show Steps p.tables e below (T23.setTop (mkF m 49 #[.val (.int p1), .val (.int (3 : Int32)), .val (.ref s1_AF), .val (.int (0 : Int32))] [(.int (1 : Int32))])) _
      exact retN X23 hx (t := .boolean) Bd.returns (by simp) (hb hby at_49) hr
    · show Q0 Z p1 s0_EX s1_AF s2_EF s3_EG s4_EU s5_AU s6_AX s7_AG h0 n0 _ T23.heap _
      rw [e23]
      exact ⟨rfl, N23⟩
  · rw [hk1]
    obtain ⟨_, _, ⟨T25, L25, k25, n25⟩, -, X25, ⟨Lc25, hQ25, l25, y25, z25⟩, st25⟩ := Jvm.LawKit.callS X0 hx (y := (⟨"com/example/bonn/bonn/OperatorIsExistentialPinLaw", "pick", "(I)Lcom/example/bonn/bonn/Formula$Operator;"⟩ : MethodName)) hown (mvT hZ (hw _ (List.mem_of_getElem? (i := 0) rfl))) (mvT hZ (hw _ (List.mem_of_getElem? (i := 1) rfl))) (mvT hZ (hw _ (List.mem_of_getElem? (i := 2) rfl))) (mvT hZ (hw _ (List.mem_of_getElem? (i := 3) rfl))) (by decide) (backOf (W := 0) (rm1 l Z a0 hw [] (4 : Int32) s0_EX s1_AF s2_EF s3_EG s4_EU s5_AU s6_AX s7_AG h0 n0 Z0 S_Formula_Operator_EX S_Formula_Operator_AF S_Formula_Operator_EF S_Formula_Operator_EG S_Formula_Operator_EU S_Formula_Operator_AU S_Formula_Operator_AX S_Formula_Operator_AG) hZ (hw _ (List.mem_of_getElem? (i := 3) rfl)) (hw _ (List.mem_of_getElem? (i := 2) rfl)) (by decide) (by decide)) (g := (mkF m 6 #[.val (.int p1), .val (.int (4 : Int32)), .unset, .unset] [(.int (4 : Int32))])) rfl (by rw [hml]; rfl) (argsL := [(.int (4 : Int32))]) (rest := []) (lenOf pd_0 rfl) rfl (by show 2 * 0 + _ ≤ _; exact Nat.le_of_eq rfl) (hb hby at_6) (fun _ _ => ⟨rfl, e0, (by decide : 0 + 0 ≤ _), (by decide : 0 + 0 ≤ _)⟩)
    dsimp only [Pt.U, Pt.locs, Pt.cells, Pt.slots] at X25 l25 y25 z25 st25 hQ25
    subst l25 y25 z25
    obtain ⟨hv25, N25q, e25⟩ := hQ25
    rw [show f1 (4 : Int32) s0_EX s1_AF s2_EF s3_EG s4_EU s5_AU s6_AX s7_AG = s3_EG from (if_neg (by decide)).trans ((if_neg (by decide)).trans ((if_neg (by decide)).trans ((if_neg (by decide)).trans (if_pos (by decide)))))] at hv25
    subst hv25
    have N25 := Fr.app N0 N25q
    have h26 : ¬ ((4 : Int32) = (0 : Int32)) := by decide
    have h27 : ¬ ((4 : Int32) = (2 : Int32)) := by decide
    have h28 : (4 : Int32) = (4 : Int32) := by decide
    obtain ⟨cq29, kq29, q29a, q29b, q29c⟩ := isOf hZ e25 E_s3_EG
    obtain ⟨_, _, ⟨T29, L29, k29, n29⟩, -, X29, ⟨Lc29, hQ29, l29, y29, z29⟩, st29⟩ := X25.virtualBack hx (y := (⟨"com/example/bonn/bonn/Formula$Operator", "isExistential", "()Z"⟩ : MethodName)) (z := (⟨"com/example/bonn/bonn/Formula$Operator", "isExistential", "()Z"⟩ : MethodName)) hown (mvT hZ (hw _ (List.mem_of_getElem? (i := 7) rfl))) (mvT hZ (hw _ (List.mem_of_getElem? (i := 8) rfl))) (notFace_of_selects (args := #[]) (mvT hZ (hw _ (List.mem_of_getElem? (i := 10) rfl)))) (mvT hZ (hw _ (List.mem_of_getElem? (i := 10) rfl))) (mvT hZ (hw _ (List.mem_of_getElem? (i := 9) rfl))) (by decide) (backOf (W := 0) (rm2 l Z a0 hw [] s3_EG s0_EX s1_AF s2_EF s3_EG s4_EU s5_AU s6_AX s7_AG h0 n0 Z0 S_Formula_Operator_EX S_Formula_Operator_AF S_Formula_Operator_EF S_Formula_Operator_EG S_Formula_Operator_EU S_Formula_Operator_AU S_Formula_Operator_AX S_Formula_Operator_AG) hZ (hw _ (List.mem_of_getElem? (i := 11) rfl)) (hw _ (List.mem_of_getElem? (i := 5) rfl)) (by decide) (by decide)) q29a q29c (g := (mkF m 37 #[.val (.int p1), .val (.int (4 : Int32)), .val (.ref s3_EG), .val (.int (1 : Int32))] [(.ref s3_EG)])) rfl (by rw [hml]; rfl) (Steps.refl _) (argsL := []) (rest := []) (lenOf pd_1 rfl) rfl (by show 2 * 0 + _ ≤ _; exact Nat.le_of_eq rfl) (hb hby at_37) (fun _ _ => ⟨rfl, e25, (by decide : 0 + 0 ≤ _), (by decide : 0 + 0 ≤ _)⟩)
    dsimp only [Pt.U, Pt.locs, Pt.cells, Pt.slots] at X29 l29 y29 z29 st29 hQ29
    subst l29 y29 z29
    obtain ⟨hv29, N29q, e29⟩ := hQ29
    rw [show f2 s3_EG s0_EX s1_AF s2_EF s3_EG s4_EU s5_AU s6_AX s7_AG = (1 : Int32) from (if_neg (Ne.symm NE_s0_EX_s3_EG)).trans ((if_neg (Ne.symm NE_s2_EF_s3_EG)).trans (if_pos rfl))] at hv29
    subst hv29
    have N29 := Fr.app N25 N29q
    have h30 : (1 : Int32) = (1 : Int32) := by decide
    obtain ⟨fs, hr, hrun, hended, hW, hsame⟩ := X29.leave (v := some (.int (1 : Int32))) (fun h => by rw [Bd.returns] at h; cases h)
    refine ⟨_, _, ?_, hrun, hended, _, _, rfl, ?_, ⟨_, rfl⟩, hW, hsame.mono (by decide) (by decide)⟩
    · show Steps p.tables e below (s₁.setTop (mkF m 5 #[.val (.int p1), .val (.int (4 : Int32)), .unset, .unset] [])) _
      refine XS.iloadN X0.here hx rfl (hb hby at_5) rfl ?_
      show Steps p.tables e below (s₁.setTop (mkF m 6 #[.val (.int p1), .val (.int (4 : Int32)), .unset, .unset] [(.int (4 : Int32))])) _
      refine st25 _ ?_
      show Steps p.tables e below (T25.setTop (mkF m 9 #[.val (.int p1), .val (.int (4 : Int32)), .unset, .unset] [(.ref s3_EG)])) _
      refine XS.astoreN X25.here hx rfl (hb hby at_9) rfl rfl (l' := #[.val (.int p1), .val (.int (4 : Int32)), .val (.ref s3_EG), .unset]) rfl ?_
      show Steps p.tables e below (T25.setTop (mkF m 10 #[.val (.int p1), .val (.int (4 : Int32)), .val (.ref s3_EG), .unset] [])) _
      refine XS.iloadN X25.here hx rfl (hb hby at_10) rfl ?_
      show Steps p.tables e below (T25.setTop (mkF m 11 #[.val (.int p1), .val (.int (4 : Int32)), .val (.ref s3_EG), .unset] [(.int (4 : Int32))])) _
      refine XS.ifNo X25.here hx rfl (hb hby at_11) rfl ((if0 _ _).trans (feq h26).1) ?_
      show Steps p.tables e below (T25.setTop (mkF m 14 #[.val (.int p1), .val (.int (4 : Int32)), .val (.ref s3_EG), .unset] [])) _
      refine XS.iloadN X25.here hx rfl (hb hby at_14) rfl ?_
      show Steps p.tables e below (T25.setTop (mkF m 15 #[.val (.int p1), .val (.int (4 : Int32)), .val (.ref s3_EG), .unset] [(.int (4 : Int32))])) _
      refine XS.iconst X25.here hx rfl (hb hby at_15) ?_
      show Steps p.tables e below (T25.setTop (mkF m 16 #[.val (.int p1), .val (.int (4 : Int32)), .val (.ref s3_EG), .unset] [(.int (2 : Int32)), (.int (4 : Int32))])) _
      refine XS.icmpNo X25.here hx rfl (hb hby at_16) rfl (feq h27).1 ?_
      show Steps p.tables e below (T25.setTop (mkF m 19 #[.val (.int p1), .val (.int (4 : Int32)), .val (.ref s3_EG), .unset] [])) _
      refine XS.iloadN X25.here hx rfl (hb hby at_19) rfl ?_
      show Steps p.tables e below (T25.setTop (mkF m 20 #[.val (.int p1), .val (.int (4 : Int32)), .val (.ref s3_EG), .unset] [(.int (4 : Int32))])) _
      refine XS.iconst X25.here hx rfl (hb hby at_20) ?_
      show Steps p.tables e below (T25.setTop (mkF m 21 #[.val (.int p1), .val (.int (4 : Int32)), .val (.ref s3_EG), .unset] [(.int (4 : Int32)), (.int (4 : Int32))])) _
      refine XS.icmpYes X25.here hx rfl (pc0 := 21) (pc' := 30) rfl (hb hby at_21) rfl (teq h28).1 (by decide) (by decide) ?_
      show Steps p.tables e below (T25.setTop (mkF m 30 #[.val (.int p1), .val (.int (4 : Int32)), .val (.ref s3_EG), .unset] [])) _
      refine XS.iconst X25.here hx rfl (hb hby at_30) ?_
      show Steps p.tables e below (T25.setTop (mkF m 31 #[.val (.int p1), .val (.int (4 : Int32)), .val (.ref s3_EG), .unset] [(.int (1 : Int32))])) _
      refine XS.goto X25.here hx rfl (pc0 := 31) (pc' := 35) rfl (hb hby at_31) (by decide) (by decide) ?_
      show Steps p.tables e below (T25.setTop (mkF m 35 #[.val (.int p1), .val (.int (4 : Int32)), .val (.ref s3_EG), .unset] [(.int (1 : Int32))])) _
      refine XS.istoreN X25.here hx rfl (hb hby at_35) rfl (l' := #[.val (.int p1), .val (.int (4 : Int32)), .val (.ref s3_EG), .val (.int (1 : Int32))]) rfl ?_
      show Steps p.tables e below (T25.setTop (mkF m 36 #[.val (.int p1), .val (.int (4 : Int32)), .val (.ref s3_EG), .val (.int (1 : Int32))] [])) _
      refine XS.aloadN X25.here hx rfl (hb hby at_36) rfl rfl ?_
      show Steps p.tables e below (T25.setTop (mkF m 37 #[.val (.int p1), .val (.int (4 : Int32)), .val (.ref s3_EG), .val (.int (1 : Int32))] [(.ref s3_EG)])) _
      refine st29.trans ?_
      show Steps p.tables e below (T29.setTop (mkF m 40 #[.val (.int p1), .val (.int (4 : Int32)), .val (.ref s3_EG), .val (.int (1 : Int32))] [(.int (1 : Int32))])) _
      refine XS.iloadN X29.here hx rfl (hb hby at_40) rfl ?_
      show Steps p.tables e below (T29.setTop (mkF m 41 #[.val (.int p1), .val (.int (4 : Int32)), .val (.ref s3_EG), .val (.int (1 : Int32))] [(.int (1 : Int32)), (.int (1 : Int32))])) _
      refine XS.icmpNo X29.here hx rfl (hb hby at_41) rfl (teq h30).2 ?_
      show Steps p.tables e below (T29.setTop (mkF m 44 #[.val (.int p1), .val (.int (4 : Int32)), .val (.ref s3_EG), .val (.int (1 : Int32))] [])) _
      refine XS.iconst X29.here hx rfl (hb hby at_44) ?_
      show Steps p.tables e below (T29.setTop (mkF m 45 #[.val (.int p1), .val (.int (4 : Int32)), .val (.ref s3_EG), .val (.int (1 : Int32))] [(.int (1 : Int32))])) _
      refine XS.goto X29.here hx rfl (pc0 := 45) (pc' := 49) rfl (hb hby at_45) (by decide) (by decide) ?_
      show Steps p.tables e below (T29.setTop (mkF m 49 #[.val (.int p1), .val (.int (4 : Int32)), .val (.ref s3_EG), .val (.int (1 : Int32))] [(.int (1 : Int32))])) _
      exact retN X29 hx (t := .boolean) Bd.returns (by simp) (hb hby at_49) hr
    · show Q0 Z p1 s0_EX s1_AF s2_EF s3_EG s4_EU s5_AU s6_AX s7_AG h0 n0 _ T29.heap _
      rw [e29]
      exact ⟨rfl, N29⟩
  · rw [hk1]
    obtain ⟨_, _, ⟨T31, L31, k31, n31⟩, -, X31, ⟨Lc31, hQ31, l31, y31, z31⟩, st31⟩ := Jvm.LawKit.callS X0 hx (y := (⟨"com/example/bonn/bonn/OperatorIsExistentialPinLaw", "pick", "(I)Lcom/example/bonn/bonn/Formula$Operator;"⟩ : MethodName)) hown (mvT hZ (hw _ (List.mem_of_getElem? (i := 0) rfl))) (mvT hZ (hw _ (List.mem_of_getElem? (i := 1) rfl))) (mvT hZ (hw _ (List.mem_of_getElem? (i := 2) rfl))) (mvT hZ (hw _ (List.mem_of_getElem? (i := 3) rfl))) (by decide) (backOf (W := 0) (rm1 l Z a0 hw [] (5 : Int32) s0_EX s1_AF s2_EF s3_EG s4_EU s5_AU s6_AX s7_AG h0 n0 Z0 S_Formula_Operator_EX S_Formula_Operator_AF S_Formula_Operator_EF S_Formula_Operator_EG S_Formula_Operator_EU S_Formula_Operator_AU S_Formula_Operator_AX S_Formula_Operator_AG) hZ (hw _ (List.mem_of_getElem? (i := 3) rfl)) (hw _ (List.mem_of_getElem? (i := 2) rfl)) (by decide) (by decide)) (g := (mkF m 6 #[.val (.int p1), .val (.int (5 : Int32)), .unset, .unset] [(.int (5 : Int32))])) rfl (by rw [hml]; rfl) (argsL := [(.int (5 : Int32))]) (rest := []) (lenOf pd_0 rfl) rfl (by show 2 * 0 + _ ≤ _; exact Nat.le_of_eq rfl) (hb hby at_6) (fun _ _ => ⟨rfl, e0, (by decide : 0 + 0 ≤ _), (by decide : 0 + 0 ≤ _)⟩)
    dsimp only [Pt.U, Pt.locs, Pt.cells, Pt.slots] at X31 l31 y31 z31 st31 hQ31
    subst l31 y31 z31
    obtain ⟨hv31, N31q, e31⟩ := hQ31
    rw [show f1 (5 : Int32) s0_EX s1_AF s2_EF s3_EG s4_EU s5_AU s6_AX s7_AG = s7_AG from (if_neg (by decide)).trans ((if_neg (by decide)).trans ((if_neg (by decide)).trans ((if_neg (by decide)).trans ((if_neg (by decide)).trans (if_pos (by decide))))))] at hv31
    subst hv31
    have N31 := Fr.app N0 N31q
    have h32 : ¬ ((5 : Int32) = (0 : Int32)) := by decide
    have h33 : ¬ ((5 : Int32) = (2 : Int32)) := by decide
    have h34 : ¬ ((5 : Int32) = (4 : Int32)) := by decide
    have h35 : ¬ ((5 : Int32) = (6 : Int32)) := by decide
    obtain ⟨cq36, kq36, q36a, q36b, q36c⟩ := isOf hZ e31 E_s7_AG
    obtain ⟨_, _, ⟨T36, L36, k36, n36⟩, -, X36, ⟨Lc36, hQ36, l36, y36, z36⟩, st36⟩ := X31.virtualBack hx (y := (⟨"com/example/bonn/bonn/Formula$Operator", "isExistential", "()Z"⟩ : MethodName)) (z := (⟨"com/example/bonn/bonn/Formula$Operator", "isExistential", "()Z"⟩ : MethodName)) hown (mvT hZ (hw _ (List.mem_of_getElem? (i := 7) rfl))) (mvT hZ (hw _ (List.mem_of_getElem? (i := 8) rfl))) (notFace_of_selects (args := #[]) (mvT hZ (hw _ (List.mem_of_getElem? (i := 10) rfl)))) (mvT hZ (hw _ (List.mem_of_getElem? (i := 10) rfl))) (mvT hZ (hw _ (List.mem_of_getElem? (i := 9) rfl))) (by decide) (backOf (W := 0) (rm2 l Z a0 hw [] s7_AG s0_EX s1_AF s2_EF s3_EG s4_EU s5_AU s6_AX s7_AG h0 n0 Z0 S_Formula_Operator_EX S_Formula_Operator_AF S_Formula_Operator_EF S_Formula_Operator_EG S_Formula_Operator_EU S_Formula_Operator_AU S_Formula_Operator_AX S_Formula_Operator_AG) hZ (hw _ (List.mem_of_getElem? (i := 11) rfl)) (hw _ (List.mem_of_getElem? (i := 5) rfl)) (by decide) (by decide)) q36a q36c (g := (mkF m 37 #[.val (.int p1), .val (.int (5 : Int32)), .val (.ref s7_AG), .val (.int (0 : Int32))] [(.ref s7_AG)])) rfl (by rw [hml]; rfl) (Steps.refl _) (argsL := []) (rest := []) (lenOf pd_1 rfl) rfl (by show 2 * 0 + _ ≤ _; exact Nat.le_of_eq rfl) (hb hby at_37) (fun _ _ => ⟨rfl, e31, (by decide : 0 + 0 ≤ _), (by decide : 0 + 0 ≤ _)⟩)
    dsimp only [Pt.U, Pt.locs, Pt.cells, Pt.slots] at X36 l36 y36 z36 st36 hQ36
    subst l36 y36 z36
    obtain ⟨hv36, N36q, e36⟩ := hQ36
    rw [show f2 s7_AG s0_EX s1_AF s2_EF s3_EG s4_EU s5_AU s6_AX s7_AG = (0 : Int32) from (if_neg (Ne.symm NE_s0_EX_s7_AG)).trans ((if_neg (Ne.symm NE_s2_EF_s7_AG)).trans ((if_neg (Ne.symm NE_s3_EG_s7_AG)).trans (if_neg (Ne.symm NE_s4_EU_s7_AG))))] at hv36
    subst hv36
    have N36 := Fr.app N31 N36q
    have h37 : (0 : Int32) = (0 : Int32) := by decide
    obtain ⟨fs, hr, hrun, hended, hW, hsame⟩ := X36.leave (v := some (.int (1 : Int32))) (fun h => by rw [Bd.returns] at h; cases h)
    refine ⟨_, _, ?_, hrun, hended, _, _, rfl, ?_, ⟨_, rfl⟩, hW, hsame.mono (by decide) (by decide)⟩
    · show Steps p.tables e below (s₁.setTop (mkF m 5 #[.val (.int p1), .val (.int (5 : Int32)), .unset, .unset] [])) _
      refine XS.iloadN X0.here hx rfl (hb hby at_5) rfl ?_
      show Steps p.tables e below (s₁.setTop (mkF m 6 #[.val (.int p1), .val (.int (5 : Int32)), .unset, .unset] [(.int (5 : Int32))])) _
      refine st31 _ ?_
      show Steps p.tables e below (T31.setTop (mkF m 9 #[.val (.int p1), .val (.int (5 : Int32)), .unset, .unset] [(.ref s7_AG)])) _
      refine XS.astoreN X31.here hx rfl (hb hby at_9) rfl rfl (l' := #[.val (.int p1), .val (.int (5 : Int32)), .val (.ref s7_AG), .unset]) rfl ?_
      show Steps p.tables e below (T31.setTop (mkF m 10 #[.val (.int p1), .val (.int (5 : Int32)), .val (.ref s7_AG), .unset] [])) _
      refine XS.iloadN X31.here hx rfl (hb hby at_10) rfl ?_
      show Steps p.tables e below (T31.setTop (mkF m 11 #[.val (.int p1), .val (.int (5 : Int32)), .val (.ref s7_AG), .unset] [(.int (5 : Int32))])) _
      refine XS.ifNo X31.here hx rfl (hb hby at_11) rfl ((if0 _ _).trans (feq h32).1) ?_
      show Steps p.tables e below (T31.setTop (mkF m 14 #[.val (.int p1), .val (.int (5 : Int32)), .val (.ref s7_AG), .unset] [])) _
      refine XS.iloadN X31.here hx rfl (hb hby at_14) rfl ?_
      show Steps p.tables e below (T31.setTop (mkF m 15 #[.val (.int p1), .val (.int (5 : Int32)), .val (.ref s7_AG), .unset] [(.int (5 : Int32))])) _
      refine XS.iconst X31.here hx rfl (hb hby at_15) ?_
      show Steps p.tables e below (T31.setTop (mkF m 16 #[.val (.int p1), .val (.int (5 : Int32)), .val (.ref s7_AG), .unset] [(.int (2 : Int32)), (.int (5 : Int32))])) _
      refine XS.icmpNo X31.here hx rfl (hb hby at_16) rfl (feq h33).1 ?_
      show Steps p.tables e below (T31.setTop (mkF m 19 #[.val (.int p1), .val (.int (5 : Int32)), .val (.ref s7_AG), .unset] [])) _
      refine XS.iloadN X31.here hx rfl (hb hby at_19) rfl ?_
      show Steps p.tables e below (T31.setTop (mkF m 20 #[.val (.int p1), .val (.int (5 : Int32)), .val (.ref s7_AG), .unset] [(.int (5 : Int32))])) _
      refine XS.iconst X31.here hx rfl (hb hby at_20) ?_
      show Steps p.tables e below (T31.setTop (mkF m 21 #[.val (.int p1), .val (.int (5 : Int32)), .val (.ref s7_AG), .unset] [(.int (4 : Int32)), (.int (5 : Int32))])) _
      refine XS.icmpNo X31.here hx rfl (hb hby at_21) rfl (feq h34).1 ?_
      show Steps p.tables e below (T31.setTop (mkF m 24 #[.val (.int p1), .val (.int (5 : Int32)), .val (.ref s7_AG), .unset] [])) _
      refine XS.iloadN X31.here hx rfl (hb hby at_24) rfl ?_
      show Steps p.tables e below (T31.setTop (mkF m 25 #[.val (.int p1), .val (.int (5 : Int32)), .val (.ref s7_AG), .unset] [(.int (5 : Int32))])) _
      refine XS.bipush X31.here hx rfl (hb hby at_25) ?_
      show Steps p.tables e below (T31.setTop (mkF m 27 #[.val (.int p1), .val (.int (5 : Int32)), .val (.ref s7_AG), .unset] [(.int (6 : Int32)), (.int (5 : Int32))])) _
      refine XS.icmpYes X31.here hx rfl (pc0 := 27) (pc' := 34) rfl (hb hby at_27) rfl (feq h35).2 (by decide) (by decide) ?_
      show Steps p.tables e below (T31.setTop (mkF m 34 #[.val (.int p1), .val (.int (5 : Int32)), .val (.ref s7_AG), .unset] [])) _
      refine XS.iconst X31.here hx rfl (hb hby at_34) ?_
      show Steps p.tables e below (T31.setTop (mkF m 35 #[.val (.int p1), .val (.int (5 : Int32)), .val (.ref s7_AG), .unset] [(.int (0 : Int32))])) _
      refine XS.istoreN X31.here hx rfl (hb hby at_35) rfl (l' := #[.val (.int p1), .val (.int (5 : Int32)), .val (.ref s7_AG), .val (.int (0 : Int32))]) rfl ?_
      show Steps p.tables e below (T31.setTop (mkF m 36 #[.val (.int p1), .val (.int (5 : Int32)), .val (.ref s7_AG), .val (.int (0 : Int32))] [])) _
      refine XS.aloadN X31.here hx rfl (hb hby at_36) rfl rfl ?_
      show Steps p.tables e below (T31.setTop (mkF m 37 #[.val (.int p1), .val (.int (5 : Int32)), .val (.ref s7_AG), .val (.int (0 : Int32))] [(.ref s7_AG)])) _
      refine st36.trans ?_
      show Steps p.tables e below (T36.setTop (mkF m 40 #[.val (.int p1), .val (.int (5 : Int32)), .val (.ref s7_AG), .val (.int (0 : Int32))] [(.int (0 : Int32))])) _
      refine XS.iloadN X36.here hx rfl (hb hby at_40) rfl ?_
      show Steps p.tables e below (T36.setTop (mkF m 41 #[.val (.int p1), .val (.int (5 : Int32)), .val (.ref s7_AG), .val (.int (0 : Int32))] [(.int (0 : Int32)), (.int (0 : Int32))])) _
      refine XS.icmpNo X36.here hx rfl (hb hby at_41) rfl (teq h37).2 ?_
      show Steps p.tables e below (T36.setTop (mkF m 44 #[.val (.int p1), .val (.int (5 : Int32)), .val (.ref s7_AG), .val (.int (0 : Int32))] [])) _
      refine XS.iconst X36.here hx rfl (hb hby at_44) ?_
      show Steps p.tables e below (T36.setTop (mkF m 45 #[.val (.int p1), .val (.int (5 : Int32)), .val (.ref s7_AG), .val (.int (0 : Int32))] [(.int (1 : Int32))])) _
      refine XS.goto X36.here hx rfl (pc0 := 45) (pc' := 49) rfl (hb hby at_45) (by decide) (by decide) ?_
      show Steps p.tables e below (T36.setTop (mkF m 49 #[.val (.int p1), .val (.int (5 : Int32)), .val (.ref s7_AG), .val (.int (0 : Int32))] [(.int (1 : Int32))])) _
      exact retN X36 hx (t := .boolean) Bd.returns (by simp) (hb hby at_49) hr
    · show Q0 Z p1 s0_EX s1_AF s2_EF s3_EG s4_EU s5_AU s6_AX s7_AG h0 n0 _ T36.heap _
      rw [e36]
      exact ⟨rfl, N36⟩
  · rw [hk1]
    obtain ⟨_, _, ⟨T38, L38, k38, n38⟩, -, X38, ⟨Lc38, hQ38, l38, y38, z38⟩, st38⟩ := Jvm.LawKit.callS X0 hx (y := (⟨"com/example/bonn/bonn/OperatorIsExistentialPinLaw", "pick", "(I)Lcom/example/bonn/bonn/Formula$Operator;"⟩ : MethodName)) hown (mvT hZ (hw _ (List.mem_of_getElem? (i := 0) rfl))) (mvT hZ (hw _ (List.mem_of_getElem? (i := 1) rfl))) (mvT hZ (hw _ (List.mem_of_getElem? (i := 2) rfl))) (mvT hZ (hw _ (List.mem_of_getElem? (i := 3) rfl))) (by decide) (backOf (W := 0) (rm1 l Z a0 hw [] (6 : Int32) s0_EX s1_AF s2_EF s3_EG s4_EU s5_AU s6_AX s7_AG h0 n0 Z0 S_Formula_Operator_EX S_Formula_Operator_AF S_Formula_Operator_EF S_Formula_Operator_EG S_Formula_Operator_EU S_Formula_Operator_AU S_Formula_Operator_AX S_Formula_Operator_AG) hZ (hw _ (List.mem_of_getElem? (i := 3) rfl)) (hw _ (List.mem_of_getElem? (i := 2) rfl)) (by decide) (by decide)) (g := (mkF m 6 #[.val (.int p1), .val (.int (6 : Int32)), .unset, .unset] [(.int (6 : Int32))])) rfl (by rw [hml]; rfl) (argsL := [(.int (6 : Int32))]) (rest := []) (lenOf pd_0 rfl) rfl (by show 2 * 0 + _ ≤ _; exact Nat.le_of_eq rfl) (hb hby at_6) (fun _ _ => ⟨rfl, e0, (by decide : 0 + 0 ≤ _), (by decide : 0 + 0 ≤ _)⟩)
    dsimp only [Pt.U, Pt.locs, Pt.cells, Pt.slots] at X38 l38 y38 z38 st38 hQ38
    subst l38 y38 z38
    obtain ⟨hv38, N38q, e38⟩ := hQ38
    rw [show f1 (6 : Int32) s0_EX s1_AF s2_EF s3_EG s4_EU s5_AU s6_AX s7_AG = s4_EU from (if_neg (by decide)).trans ((if_neg (by decide)).trans ((if_neg (by decide)).trans ((if_neg (by decide)).trans ((if_neg (by decide)).trans ((if_neg (by decide)).trans (if_pos (by decide)))))))] at hv38
    subst hv38
    have N38 := Fr.app N0 N38q
    have h39 : ¬ ((6 : Int32) = (0 : Int32)) := by decide
    have h40 : ¬ ((6 : Int32) = (2 : Int32)) := by decide
    have h41 : ¬ ((6 : Int32) = (4 : Int32)) := by decide
    have h42 : (6 : Int32) = (6 : Int32) := by decide
    obtain ⟨cq43, kq43, q43a, q43b, q43c⟩ := isOf hZ e38 E_s4_EU
    obtain ⟨_, _, ⟨T43, L43, k43, n43⟩, -, X43, ⟨Lc43, hQ43, l43, y43, z43⟩, st43⟩ := X38.virtualBack hx (y := (⟨"com/example/bonn/bonn/Formula$Operator", "isExistential", "()Z"⟩ : MethodName)) (z := (⟨"com/example/bonn/bonn/Formula$Operator", "isExistential", "()Z"⟩ : MethodName)) hown (mvT hZ (hw _ (List.mem_of_getElem? (i := 7) rfl))) (mvT hZ (hw _ (List.mem_of_getElem? (i := 8) rfl))) (notFace_of_selects (args := #[]) (mvT hZ (hw _ (List.mem_of_getElem? (i := 10) rfl)))) (mvT hZ (hw _ (List.mem_of_getElem? (i := 10) rfl))) (mvT hZ (hw _ (List.mem_of_getElem? (i := 9) rfl))) (by decide) (backOf (W := 0) (rm2 l Z a0 hw [] s4_EU s0_EX s1_AF s2_EF s3_EG s4_EU s5_AU s6_AX s7_AG h0 n0 Z0 S_Formula_Operator_EX S_Formula_Operator_AF S_Formula_Operator_EF S_Formula_Operator_EG S_Formula_Operator_EU S_Formula_Operator_AU S_Formula_Operator_AX S_Formula_Operator_AG) hZ (hw _ (List.mem_of_getElem? (i := 11) rfl)) (hw _ (List.mem_of_getElem? (i := 5) rfl)) (by decide) (by decide)) q43a q43c (g := (mkF m 37 #[.val (.int p1), .val (.int (6 : Int32)), .val (.ref s4_EU), .val (.int (1 : Int32))] [(.ref s4_EU)])) rfl (by rw [hml]; rfl) (Steps.refl _) (argsL := []) (rest := []) (lenOf pd_1 rfl) rfl (by show 2 * 0 + _ ≤ _; exact Nat.le_of_eq rfl) (hb hby at_37) (fun _ _ => ⟨rfl, e38, (by decide : 0 + 0 ≤ _), (by decide : 0 + 0 ≤ _)⟩)
    dsimp only [Pt.U, Pt.locs, Pt.cells, Pt.slots] at X43 l43 y43 z43 st43 hQ43
    subst l43 y43 z43
    obtain ⟨hv43, N43q, e43⟩ := hQ43
    rw [show f2 s4_EU s0_EX s1_AF s2_EF s3_EG s4_EU s5_AU s6_AX s7_AG = (1 : Int32) from (if_neg (Ne.symm NE_s0_EX_s4_EU)).trans ((if_neg (Ne.symm NE_s2_EF_s4_EU)).trans ((if_neg (Ne.symm NE_s3_EG_s4_EU)).trans (if_pos rfl)))] at hv43
    subst hv43
    have N43 := Fr.app N38 N43q
    have h44 : (1 : Int32) = (1 : Int32) := by decide
    obtain ⟨fs, hr, hrun, hended, hW, hsame⟩ := X43.leave (v := some (.int (1 : Int32))) (fun h => by rw [Bd.returns] at h; cases h)
    refine ⟨_, _, ?_, hrun, hended, _, _, rfl, ?_, ⟨_, rfl⟩, hW, hsame.mono (by decide) (by decide)⟩
    · show Steps p.tables e below (s₁.setTop (mkF m 5 #[.val (.int p1), .val (.int (6 : Int32)), .unset, .unset] [])) _
      refine XS.iloadN X0.here hx rfl (hb hby at_5) rfl ?_
      show Steps p.tables e below (s₁.setTop (mkF m 6 #[.val (.int p1), .val (.int (6 : Int32)), .unset, .unset] [(.int (6 : Int32))])) _
      refine st38 _ ?_
      show Steps p.tables e below (T38.setTop (mkF m 9 #[.val (.int p1), .val (.int (6 : Int32)), .unset, .unset] [(.ref s4_EU)])) _
      refine XS.astoreN X38.here hx rfl (hb hby at_9) rfl rfl (l' := #[.val (.int p1), .val (.int (6 : Int32)), .val (.ref s4_EU), .unset]) rfl ?_
      show Steps p.tables e below (T38.setTop (mkF m 10 #[.val (.int p1), .val (.int (6 : Int32)), .val (.ref s4_EU), .unset] [])) _
      refine XS.iloadN X38.here hx rfl (hb hby at_10) rfl ?_
      show Steps p.tables e below (T38.setTop (mkF m 11 #[.val (.int p1), .val (.int (6 : Int32)), .val (.ref s4_EU), .unset] [(.int (6 : Int32))])) _
      refine XS.ifNo X38.here hx rfl (hb hby at_11) rfl ((if0 _ _).trans (feq h39).1) ?_
      show Steps p.tables e below (T38.setTop (mkF m 14 #[.val (.int p1), .val (.int (6 : Int32)), .val (.ref s4_EU), .unset] [])) _
      refine XS.iloadN X38.here hx rfl (hb hby at_14) rfl ?_
      show Steps p.tables e below (T38.setTop (mkF m 15 #[.val (.int p1), .val (.int (6 : Int32)), .val (.ref s4_EU), .unset] [(.int (6 : Int32))])) _
      refine XS.iconst X38.here hx rfl (hb hby at_15) ?_
      show Steps p.tables e below (T38.setTop (mkF m 16 #[.val (.int p1), .val (.int (6 : Int32)), .val (.ref s4_EU), .unset] [(.int (2 : Int32)), (.int (6 : Int32))])) _
      refine XS.icmpNo X38.here hx rfl (hb hby at_16) rfl (feq h40).1 ?_
      show Steps p.tables e below (T38.setTop (mkF m 19 #[.val (.int p1), .val (.int (6 : Int32)), .val (.ref s4_EU), .unset] [])) _
      refine XS.iloadN X38.here hx rfl (hb hby at_19) rfl ?_
      show Steps p.tables e below (T38.setTop (mkF m 20 #[.val (.int p1), .val (.int (6 : Int32)), .val (.ref s4_EU), .unset] [(.int (6 : Int32))])) _
      refine XS.iconst X38.here hx rfl (hb hby at_20) ?_
      show Steps p.tables e below (T38.setTop (mkF m 21 #[.val (.int p1), .val (.int (6 : Int32)), .val (.ref s4_EU), .unset] [(.int (4 : Int32)), (.int (6 : Int32))])) _
      refine XS.icmpNo X38.here hx rfl (hb hby at_21) rfl (feq h41).1 ?_
      show Steps p.tables e below (T38.setTop (mkF m 24 #[.val (.int p1), .val (.int (6 : Int32)), .val (.ref s4_EU), .unset] [])) _
      refine XS.iloadN X38.here hx rfl (hb hby at_24) rfl ?_
      show Steps p.tables e below (T38.setTop (mkF m 25 #[.val (.int p1), .val (.int (6 : Int32)), .val (.ref s4_EU), .unset] [(.int (6 : Int32))])) _
      refine XS.bipush X38.here hx rfl (hb hby at_25) ?_
      show Steps p.tables e below (T38.setTop (mkF m 27 #[.val (.int p1), .val (.int (6 : Int32)), .val (.ref s4_EU), .unset] [(.int (6 : Int32)), (.int (6 : Int32))])) _
      refine XS.icmpNo X38.here hx rfl (hb hby at_27) rfl (teq h42).2 ?_
      show Steps p.tables e below (T38.setTop (mkF m 30 #[.val (.int p1), .val (.int (6 : Int32)), .val (.ref s4_EU), .unset] [])) _
      refine XS.iconst X38.here hx rfl (hb hby at_30) ?_
      show Steps p.tables e below (T38.setTop (mkF m 31 #[.val (.int p1), .val (.int (6 : Int32)), .val (.ref s4_EU), .unset] [(.int (1 : Int32))])) _
      refine XS.goto X38.here hx rfl (pc0 := 31) (pc' := 35) rfl (hb hby at_31) (by decide) (by decide) ?_
      show Steps p.tables e below (T38.setTop (mkF m 35 #[.val (.int p1), .val (.int (6 : Int32)), .val (.ref s4_EU), .unset] [(.int (1 : Int32))])) _
      refine XS.istoreN X38.here hx rfl (hb hby at_35) rfl (l' := #[.val (.int p1), .val (.int (6 : Int32)), .val (.ref s4_EU), .val (.int (1 : Int32))]) rfl ?_
      show Steps p.tables e below (T38.setTop (mkF m 36 #[.val (.int p1), .val (.int (6 : Int32)), .val (.ref s4_EU), .val (.int (1 : Int32))] [])) _
      refine XS.aloadN X38.here hx rfl (hb hby at_36) rfl rfl ?_
      show Steps p.tables e below (T38.setTop (mkF m 37 #[.val (.int p1), .val (.int (6 : Int32)), .val (.ref s4_EU), .val (.int (1 : Int32))] [(.ref s4_EU)])) _
      refine st43.trans ?_
      show Steps p.tables e below (T43.setTop (mkF m 40 #[.val (.int p1), .val (.int (6 : Int32)), .val (.ref s4_EU), .val (.int (1 : Int32))] [(.int (1 : Int32))])) _
      refine XS.iloadN X43.here hx rfl (hb hby at_40) rfl ?_
      show Steps p.tables e below (T43.setTop (mkF m 41 #[.val (.int p1), .val (.int (6 : Int32)), .val (.ref s4_EU), .val (.int (1 : Int32))] [(.int (1 : Int32)), (.int (1 : Int32))])) _
      refine XS.icmpNo X43.here hx rfl (hb hby at_41) rfl (teq h44).2 ?_
      show Steps p.tables e below (T43.setTop (mkF m 44 #[.val (.int p1), .val (.int (6 : Int32)), .val (.ref s4_EU), .val (.int (1 : Int32))] [])) _
      refine XS.iconst X43.here hx rfl (hb hby at_44) ?_
      show Steps p.tables e below (T43.setTop (mkF m 45 #[.val (.int p1), .val (.int (6 : Int32)), .val (.ref s4_EU), .val (.int (1 : Int32))] [(.int (1 : Int32))])) _
      refine XS.goto X43.here hx rfl (pc0 := 45) (pc' := 49) rfl (hb hby at_45) (by decide) (by decide) ?_
      show Steps p.tables e below (T43.setTop (mkF m 49 #[.val (.int p1), .val (.int (6 : Int32)), .val (.ref s4_EU), .val (.int (1 : Int32))] [(.int (1 : Int32))])) _
      exact retN X43 hx (t := .boolean) Bd.returns (by simp) (hb hby at_49) hr
    · show Q0 Z p1 s0_EX s1_AF s2_EF s3_EG s4_EU s5_AU s6_AX s7_AG h0 n0 _ T43.heap _
      rw [e43]
      exact ⟨rfl, N43⟩
  · rw [hk1]
    obtain ⟨_, _, ⟨T45, L45, k45, n45⟩, -, X45, ⟨Lc45, hQ45, l45, y45, z45⟩, st45⟩ := Jvm.LawKit.callS X0 hx (y := (⟨"com/example/bonn/bonn/OperatorIsExistentialPinLaw", "pick", "(I)Lcom/example/bonn/bonn/Formula$Operator;"⟩ : MethodName)) hown (mvT hZ (hw _ (List.mem_of_getElem? (i := 0) rfl))) (mvT hZ (hw _ (List.mem_of_getElem? (i := 1) rfl))) (mvT hZ (hw _ (List.mem_of_getElem? (i := 2) rfl))) (mvT hZ (hw _ (List.mem_of_getElem? (i := 3) rfl))) (by decide) (backOf (W := 0) (rm1 l Z a0 hw [] (7 : Int32) s0_EX s1_AF s2_EF s3_EG s4_EU s5_AU s6_AX s7_AG h0 n0 Z0 S_Formula_Operator_EX S_Formula_Operator_AF S_Formula_Operator_EF S_Formula_Operator_EG S_Formula_Operator_EU S_Formula_Operator_AU S_Formula_Operator_AX S_Formula_Operator_AG) hZ (hw _ (List.mem_of_getElem? (i := 3) rfl)) (hw _ (List.mem_of_getElem? (i := 2) rfl)) (by decide) (by decide)) (g := (mkF m 6 #[.val (.int p1), .val (.int (7 : Int32)), .unset, .unset] [(.int (7 : Int32))])) rfl (by rw [hml]; rfl) (argsL := [(.int (7 : Int32))]) (rest := []) (lenOf pd_0 rfl) rfl (by show 2 * 0 + _ ≤ _; exact Nat.le_of_eq rfl) (hb hby at_6) (fun _ _ => ⟨rfl, e0, (by decide : 0 + 0 ≤ _), (by decide : 0 + 0 ≤ _)⟩)
    dsimp only [Pt.U, Pt.locs, Pt.cells, Pt.slots] at X45 l45 y45 z45 st45 hQ45
    subst l45 y45 z45
    obtain ⟨hv45, N45q, e45⟩ := hQ45
    rw [show f1 (7 : Int32) s0_EX s1_AF s2_EF s3_EG s4_EU s5_AU s6_AX s7_AG = s5_AU from (if_neg (by decide)).trans ((if_neg (by decide)).trans ((if_neg (by decide)).trans ((if_neg (by decide)).trans ((if_neg (by decide)).trans ((if_neg (by decide)).trans (if_neg (by decide)))))))] at hv45
    subst hv45
    have N45 := Fr.app N0 N45q
    have h46 : ¬ ((7 : Int32) = (0 : Int32)) := by decide
    have h47 : ¬ ((7 : Int32) = (2 : Int32)) := by decide
    have h48 : ¬ ((7 : Int32) = (4 : Int32)) := by decide
    have h49 : ¬ ((7 : Int32) = (6 : Int32)) := by decide
    obtain ⟨cq50, kq50, q50a, q50b, q50c⟩ := isOf hZ e45 E_s5_AU
    obtain ⟨_, _, ⟨T50, L50, k50, n50⟩, -, X50, ⟨Lc50, hQ50, l50, y50, z50⟩, st50⟩ := X45.virtualBack hx (y := (⟨"com/example/bonn/bonn/Formula$Operator", "isExistential", "()Z"⟩ : MethodName)) (z := (⟨"com/example/bonn/bonn/Formula$Operator", "isExistential", "()Z"⟩ : MethodName)) hown (mvT hZ (hw _ (List.mem_of_getElem? (i := 7) rfl))) (mvT hZ (hw _ (List.mem_of_getElem? (i := 8) rfl))) (notFace_of_selects (args := #[]) (mvT hZ (hw _ (List.mem_of_getElem? (i := 10) rfl)))) (mvT hZ (hw _ (List.mem_of_getElem? (i := 10) rfl))) (mvT hZ (hw _ (List.mem_of_getElem? (i := 9) rfl))) (by decide) (backOf (W := 0) (rm2 l Z a0 hw [] s5_AU s0_EX s1_AF s2_EF s3_EG s4_EU s5_AU s6_AX s7_AG h0 n0 Z0 S_Formula_Operator_EX S_Formula_Operator_AF S_Formula_Operator_EF S_Formula_Operator_EG S_Formula_Operator_EU S_Formula_Operator_AU S_Formula_Operator_AX S_Formula_Operator_AG) hZ (hw _ (List.mem_of_getElem? (i := 11) rfl)) (hw _ (List.mem_of_getElem? (i := 5) rfl)) (by decide) (by decide)) q50a q50c (g := (mkF m 37 #[.val (.int p1), .val (.int (7 : Int32)), .val (.ref s5_AU), .val (.int (0 : Int32))] [(.ref s5_AU)])) rfl (by rw [hml]; rfl) (Steps.refl _) (argsL := []) (rest := []) (lenOf pd_1 rfl) rfl (by show 2 * 0 + _ ≤ _; exact Nat.le_of_eq rfl) (hb hby at_37) (fun _ _ => ⟨rfl, e45, (by decide : 0 + 0 ≤ _), (by decide : 0 + 0 ≤ _)⟩)
    dsimp only [Pt.U, Pt.locs, Pt.cells, Pt.slots] at X50 l50 y50 z50 st50 hQ50
    subst l50 y50 z50
    obtain ⟨hv50, N50q, e50⟩ := hQ50
    rw [show f2 s5_AU s0_EX s1_AF s2_EF s3_EG s4_EU s5_AU s6_AX s7_AG = (0 : Int32) from (if_neg (Ne.symm NE_s0_EX_s5_AU)).trans ((if_neg (Ne.symm NE_s2_EF_s5_AU)).trans ((if_neg (Ne.symm NE_s3_EG_s5_AU)).trans (if_neg (Ne.symm NE_s4_EU_s5_AU))))] at hv50
    subst hv50
    have N50 := Fr.app N45 N50q
    have h51 : (0 : Int32) = (0 : Int32) := by decide
    obtain ⟨fs, hr, hrun, hended, hW, hsame⟩ := X50.leave (v := some (.int (1 : Int32))) (fun h => by rw [Bd.returns] at h; cases h)
    refine ⟨_, _, ?_, hrun, hended, _, _, rfl, ?_, ⟨_, rfl⟩, hW, hsame.mono (by decide) (by decide)⟩
    · show Steps p.tables e below (s₁.setTop (mkF m 5 #[.val (.int p1), .val (.int (7 : Int32)), .unset, .unset] [])) _
      refine XS.iloadN X0.here hx rfl (hb hby at_5) rfl ?_
      show Steps p.tables e below (s₁.setTop (mkF m 6 #[.val (.int p1), .val (.int (7 : Int32)), .unset, .unset] [(.int (7 : Int32))])) _
      refine st45 _ ?_
      show Steps p.tables e below (T45.setTop (mkF m 9 #[.val (.int p1), .val (.int (7 : Int32)), .unset, .unset] [(.ref s5_AU)])) _
      refine XS.astoreN X45.here hx rfl (hb hby at_9) rfl rfl (l' := #[.val (.int p1), .val (.int (7 : Int32)), .val (.ref s5_AU), .unset]) rfl ?_
      show Steps p.tables e below (T45.setTop (mkF m 10 #[.val (.int p1), .val (.int (7 : Int32)), .val (.ref s5_AU), .unset] [])) _
      refine XS.iloadN X45.here hx rfl (hb hby at_10) rfl ?_
      show Steps p.tables e below (T45.setTop (mkF m 11 #[.val (.int p1), .val (.int (7 : Int32)), .val (.ref s5_AU), .unset] [(.int (7 : Int32))])) _
      refine XS.ifNo X45.here hx rfl (hb hby at_11) rfl ((if0 _ _).trans (feq h46).1) ?_
      show Steps p.tables e below (T45.setTop (mkF m 14 #[.val (.int p1), .val (.int (7 : Int32)), .val (.ref s5_AU), .unset] [])) _
      refine XS.iloadN X45.here hx rfl (hb hby at_14) rfl ?_
      show Steps p.tables e below (T45.setTop (mkF m 15 #[.val (.int p1), .val (.int (7 : Int32)), .val (.ref s5_AU), .unset] [(.int (7 : Int32))])) _
      refine XS.iconst X45.here hx rfl (hb hby at_15) ?_
      show Steps p.tables e below (T45.setTop (mkF m 16 #[.val (.int p1), .val (.int (7 : Int32)), .val (.ref s5_AU), .unset] [(.int (2 : Int32)), (.int (7 : Int32))])) _
      refine XS.icmpNo X45.here hx rfl (hb hby at_16) rfl (feq h47).1 ?_
      show Steps p.tables e below (T45.setTop (mkF m 19 #[.val (.int p1), .val (.int (7 : Int32)), .val (.ref s5_AU), .unset] [])) _
      refine XS.iloadN X45.here hx rfl (hb hby at_19) rfl ?_
      show Steps p.tables e below (T45.setTop (mkF m 20 #[.val (.int p1), .val (.int (7 : Int32)), .val (.ref s5_AU), .unset] [(.int (7 : Int32))])) _
      refine XS.iconst X45.here hx rfl (hb hby at_20) ?_
      show Steps p.tables e below (T45.setTop (mkF m 21 #[.val (.int p1), .val (.int (7 : Int32)), .val (.ref s5_AU), .unset] [(.int (4 : Int32)), (.int (7 : Int32))])) _
      refine XS.icmpNo X45.here hx rfl (hb hby at_21) rfl (feq h48).1 ?_
      show Steps p.tables e below (T45.setTop (mkF m 24 #[.val (.int p1), .val (.int (7 : Int32)), .val (.ref s5_AU), .unset] [])) _
      refine XS.iloadN X45.here hx rfl (hb hby at_24) rfl ?_
      show Steps p.tables e below (T45.setTop (mkF m 25 #[.val (.int p1), .val (.int (7 : Int32)), .val (.ref s5_AU), .unset] [(.int (7 : Int32))])) _
      refine XS.bipush X45.here hx rfl (hb hby at_25) ?_
      show Steps p.tables e below (T45.setTop (mkF m 27 #[.val (.int p1), .val (.int (7 : Int32)), .val (.ref s5_AU), .unset] [(.int (6 : Int32)), (.int (7 : Int32))])) _
      refine XS.icmpYes X45.here hx rfl (pc0 := 27) (pc' := 34) rfl (hb hby at_27) rfl (feq h49).2 (by decide) (by decide) ?_
      show Steps p.tables e below (T45.setTop (mkF m 34 #[.val (.int p1), .val (.int (7 : Int32)), .val (.ref s5_AU), .unset] [])) _
      refine XS.iconst X45.here hx rfl (hb hby at_34) ?_
      show Steps p.tables e below (T45.setTop (mkF m 35 #[.val (.int p1), .val (.int (7 : Int32)), .val (.ref s5_AU), .unset] [(.int (0 : Int32))])) _
      refine XS.istoreN X45.here hx rfl (hb hby at_35) rfl (l' := #[.val (.int p1), .val (.int (7 : Int32)), .val (.ref s5_AU), .val (.int (0 : Int32))]) rfl ?_
      show Steps p.tables e below (T45.setTop (mkF m 36 #[.val (.int p1), .val (.int (7 : Int32)), .val (.ref s5_AU), .val (.int (0 : Int32))] [])) _
      refine XS.aloadN X45.here hx rfl (hb hby at_36) rfl rfl ?_
      show Steps p.tables e below (T45.setTop (mkF m 37 #[.val (.int p1), .val (.int (7 : Int32)), .val (.ref s5_AU), .val (.int (0 : Int32))] [(.ref s5_AU)])) _
      refine st50.trans ?_
      show Steps p.tables e below (T50.setTop (mkF m 40 #[.val (.int p1), .val (.int (7 : Int32)), .val (.ref s5_AU), .val (.int (0 : Int32))] [(.int (0 : Int32))])) _
      refine XS.iloadN X50.here hx rfl (hb hby at_40) rfl ?_
      show Steps p.tables e below (T50.setTop (mkF m 41 #[.val (.int p1), .val (.int (7 : Int32)), .val (.ref s5_AU), .val (.int (0 : Int32))] [(.int (0 : Int32)), (.int (0 : Int32))])) _
      refine XS.icmpNo X50.here hx rfl (hb hby at_41) rfl (teq h51).2 ?_
      show Steps p.tables e below (T50.setTop (mkF m 44 #[.val (.int p1), .val (.int (7 : Int32)), .val (.ref s5_AU), .val (.int (0 : Int32))] [])) _
      refine XS.iconst X50.here hx rfl (hb hby at_44) ?_
      show Steps p.tables e below (T50.setTop (mkF m 45 #[.val (.int p1), .val (.int (7 : Int32)), .val (.ref s5_AU), .val (.int (0 : Int32))] [(.int (1 : Int32))])) _
      refine XS.goto X50.here hx rfl (pc0 := 45) (pc' := 49) rfl (hb hby at_45) (by decide) (by decide) ?_
      show Steps p.tables e below (T50.setTop (mkF m 49 #[.val (.int p1), .val (.int (7 : Int32)), .val (.ref s5_AU), .val (.int (0 : Int32))] [(.int (1 : Int32))])) _
      exact retN X50 hx (t := .boolean) Bd.returns (by simp) (hb hby at_49) hr
    · show Q0 Z p1 s0_EX s1_AF s2_EF s3_EG s4_EU s5_AU s6_AX s7_AG h0 n0 _ T50.heap _
      rw [e50]
      exact ⟨rfl, N50⟩
set_option maxRecDepth 65536 in
set_option maxHeartbeats 40000000 in
theorem comes_1 {Post : Tables → Env → Array Value → State → Outcome → State → Prop} (hpost : ∀ tb e args s v u, (limb_1_1.after args s (.returned v) u = true ∧ limb_1_2.after args s (.returned v) u = true ∧ True) → FrameEnd s (.returned v) u (Jvm.fieldLocs frame_1_writes args s ++ Jvm.arrayLocs frame_1_arrays args s ++ Jvm.staticLocs frame_1_statics s) 0 0 → Post tb e args s (.returned v) u) :
    ArmFor flags0 classFile x code maxLocals ret World_1 tables_1 room_1 Calls_1 rest_1 Pre_1 Post := by
  intro l hfl _ _ p e ha hc hk s m args below hf hA hF happ hP
  obtain ⟨hcalls, hrest, hpre⟩ := hP
  obtain ⟨-, -, -, hnamed, -, -, -, hat⟩ := (Spec.applies_iff hf).mp happ
  obtain ⟨hg, hn⟩ := and_e (Cond.before_iff.mp (show (Jvm.Cond.and given_1 narrow_1).before args s = true from hpre))
  obtain ⟨hcnt, hg0⟩ := and_e hg
  obtain ⟨w0, rfl⟩ : ∃ w0 : Value, args = #[w0] := by
    have hs : args.size = 1 := by simpa [Cond.value, given_1] using hcnt
    obtain ⟨L⟩ := args
    match L, hs with
    | [w0], _ => exact ⟨w0, rfl⟩
  have hw := fun d (hd : d ∈ tables_1) => atoms_spec (ws := Jvm.Cond.code x code maxLocals ret :: tables_1) hat d (List.mem_cons_of_mem _ hd)
  have hfit : Fit s := fun {y c} hc i hi => by
    obtain ⟨ha, rfl⟩ := Array.getElem?_eq_some_iff.mp hc
    have q := List.all_eq_true.mp ((Array.all_eq_true_iff_forall_mem.mp hF) _ (Array.getElem_mem ha)) i (List.mem_range.mpr hi)
    simpa [Array.getElem?_eq_getElem hi] using q
  obtain ⟨i0, ei0⟩ := is_v hg0
  obtain rfl : w0 = (.int i0) := Option.some.inj ei0
  obtain ⟨hc0, hn1⟩ := and_e hn
  obtain ⟨hc1, hn2⟩ := and_e hn1
  obtain ⟨hc2, hn3⟩ := and_e hn2
  obtain ⟨hc3, hn4⟩ := and_e hn3
  obtain ⟨hc4, hn5⟩ := and_e hn4
  obtain ⟨hc5, hn6⟩ := and_e hn5
  obtain ⟨hc6, hn7⟩ := and_e hn6
  obtain ⟨hc7, hn8⟩ := and_e hn7
  obtain ⟨hc8, hn9⟩ := and_e hn8
  obtain ⟨hc9, hn10⟩ := and_e hn9
  obtain ⟨hc10, hn11⟩ := and_e hn10
  obtain ⟨hc11, hn12⟩ := and_e hn11
  obtain ⟨hc12, hn13⟩ := and_e hn12
  obtain ⟨hc13, hn14⟩ := and_e hn13
  obtain ⟨hc14, hn15⟩ := and_e hn14
  have hc15 := hn15
  obtain ⟨s0_EX, ex0⟩ := exa_v hc0
  have S0 := Sta.start ex0 (Or.inr ⟨(hw _ (List.mem_of_getElem? (i := 5) rfl)), (hw _ (List.mem_of_getElem? (i := 6) rfl))⟩)
  have E0 := Exa.start ex0 hc0
  obtain ⟨s1_AF, ex1⟩ := exa_v hc1
  have S1 := Sta.start ex1 (Or.inr ⟨(hw _ (List.mem_of_getElem? (i := 5) rfl)), (hw _ (List.mem_of_getElem? (i := 14) rfl))⟩)
  have E1 := Exa.start ex1 hc1
  obtain ⟨s2_EF, ex4⟩ := exa_v hc4
  have S4 := Sta.start ex4 (Or.inr ⟨(hw _ (List.mem_of_getElem? (i := 5) rfl)), (hw _ (List.mem_of_getElem? (i := 16) rfl))⟩)
  have E4 := Exa.start ex4 hc4
  obtain ⟨s3_EG, ex6⟩ := exa_v hc6
  have S6 := Sta.start ex6 (Or.inr ⟨(hw _ (List.mem_of_getElem? (i := 5) rfl)), (hw _ (List.mem_of_getElem? (i := 18) rfl))⟩)
  have E6 := Exa.start ex6 hc6
  obtain ⟨s4_EU, ex8⟩ := exa_v hc8
  have S8 := Sta.start ex8 (Or.inr ⟨(hw _ (List.mem_of_getElem? (i := 5) rfl)), (hw _ (List.mem_of_getElem? (i := 20) rfl))⟩)
  have E8 := Exa.start ex8 hc8
  obtain ⟨s5_AU, ex10⟩ := exa_v hc10
  have S10 := Sta.start ex10 (Or.inr ⟨(hw _ (List.mem_of_getElem? (i := 5) rfl)), (hw _ (List.mem_of_getElem? (i := 23) rfl))⟩)
  have E10 := Exa.start ex10 hc10
  obtain ⟨s6_AX, ex12⟩ := exa_v hc12
  have S12 := Sta.start ex12 (Or.inr ⟨(hw _ (List.mem_of_getElem? (i := 5) rfl)), (hw _ (List.mem_of_getElem? (i := 26) rfl))⟩)
  have E12 := Exa.start ex12 hc12
  obtain ⟨s7_AG, ex14⟩ := exa_v hc14
  have S14 := Sta.start ex14 (Or.inr ⟨(hw _ (List.mem_of_getElem? (i := 5) rfl)), (hw _ (List.mem_of_getElem? (i := 29) rfl))⟩)
  have E14 := Exa.start ex14 hc14
  have f2 := own_fint ex1 hc2
  have F2 := Fld.start f2
  have f3 := own_fint ex0 hc3
  have F3 := Fld.start f3
  have ne2_3 := own_fne f2 f3 (by decide)
  have f5 := own_fint ex4 hc5
  have F5 := Fld.start f5
  have ne2_5 := own_fne f2 f5 (by decide)
  have ne3_5 := own_fne f3 f5 (by decide)
  have f7 := own_fint ex6 hc7
  have F7 := Fld.start f7
  have ne2_7 := own_fne f2 f7 (by decide)
  have ne3_7 := own_fne f3 f7 (by decide)
  have ne5_7 := own_fne f5 f7 (by decide)
  have f9 := own_fint ex8 hc9
  have F9 := Fld.start f9
  have ne2_9 := own_fne f2 f9 (by decide)
  have ne3_9 := own_fne f3 f9 (by decide)
  have ne5_9 := own_fne f5 f9 (by decide)
  have ne7_9 := own_fne f7 f9 (by decide)
  have f11 := own_fint ex10 hc11
  have F11 := Fld.start f11
  have ne2_11 := own_fne f2 f11 (by decide)
  have ne3_11 := own_fne f3 f11 (by decide)
  have ne5_11 := own_fne f5 f11 (by decide)
  have ne7_11 := own_fne f7 f11 (by decide)
  have ne9_11 := own_fne f9 f11 (by decide)
  have f13 := own_fint ex12 hc13
  have F13 := Fld.start f13
  have ne2_13 := own_fne f2 f13 (by decide)
  have ne3_13 := own_fne f3 f13 (by decide)
  have ne5_13 := own_fne f5 f13 (by decide)
  have ne7_13 := own_fne f7 f13 (by decide)
  have ne9_13 := own_fne f9 f13 (by decide)
  have ne11_13 := own_fne f11 f13 (by decide)
  have f15 := own_fint ex14 hc15
  have F15 := Fld.start f15
  have ne2_15 := own_fne f2 f15 (by decide)
  have ne3_15 := own_fne f3 f15 (by decide)
  have ne5_15 := own_fne f5 f15 (by decide)
  have ne7_15 := own_fne f7 f15 (by decide)
  have ne9_15 := own_fne f9 f15 (by decide)
  have ne11_15 := own_fne f11 f15 (by decide)
  have ne13_15 := own_fne f13 f15 (by decide)
  obtain ⟨n, o, h1, h2, h3, _, L, rfl, ⟨rfl, N⟩, hq⟩ := rm0 l s _ hw tables_1 i0 s0_EX s1_AF s2_EF s3_EG s4_EU s5_AU s6_AX s7_AG s.heap s.heap.size (Nat.le_refl _) S0 E0 S1 E1 S4 E4 S6 E6 S8 E8 S10 E10 S12 E12 S14 E14 F2 F3 ne2_3 F5 ne2_5 ne3_5 F7 ne2_7 ne3_7 ne5_7 F9 ne2_9 ne3_9 ne5_9 ne7_9 F11 ne2_11 ne3_11 ne5_11 ne7_11 ne9_11 F13 ne2_13 ne3_13 ne5_13 ne7_13 ne9_13 ne11_13 F15 ne2_15 ne3_15 ne5_15 ne7_15 ne9_15 ne11_15 ne13_15 p e ha hc hk s m _ below hf ((Spec.applies_iff_loose hf).mp happ).1 ⟨rfl, State.Warmed39.refl s, rfl⟩ trivial
  refine ⟨n, _, h1, h2, h3, hpost _ _ _ _ _ _ ⟨Cond.after_iff.mpr rfl, Cond.after_iff.mpr (eq_i res_at (Term.int_eval (1)) rfl), trivial⟩ ⟨hq.1, hq.2.1, (hq.2.2.sift fun y hy => Or.inr (N y hy)).mono (by decide) (by decide)⟩⟩
theorem main_1_1 : Claimed_1_1 := comes_1 fun _ _ _ _ _ _ h hF => ⟨h.1, hF⟩
theorem main_1_2 : Claimed_1_2 := comes_1 fun _ _ _ _ _ _ h hF => ⟨h.2.1, hF⟩
end Jvm.Pilot.@@N@@
namespace Jvm.Pilot.@@N@@
open Jvm Jvm.ClassFile Sem Op Lib Jvm.Free Jvm.Stand Jvm.Pilot.@@N@@.Jvm.D
/-! MADE BY PROGRAM (witnessworld.py) out of the Statement's table words and the real class files: 12 classes; the members and pool entries that the words name. The judged class is class 1, her method 2. -/
namespace start1
open Jvm.ClassFile
def u (s : String) : CpInfo := .utf8 (stringToUtf16 s)
/-- a pool by its gaps: so many unusable entries, then the entry; so many at the end -/
def gap : Nat → List CpInfo → List CpInfo
  | 0, r => r
  | n + 1, r => .unusable :: gap n r
def poolList (es : List (Nat × CpInfo)) (last : Nat) : List CpInfo := es.foldr (fun e r => gap e.1 (e.2 :: r)) (gap last [])
def pool (es : List (Nat × CpInfo)) (last : Nat) : Array CpInfo := ⟨poolList es last⟩
def fileOf (pool : Array CpInfo) (this : Nat) (attrs : Array Attribute := #[]) (ms : Array MethodInfo := #[]) (fl : Nat := 33) (sup : Nat := 0) (ifs : Array Nat := #[]) (fds : Array FieldInfo := #[]) : ClassFile where
  minorVersion := 0
  majorVersion := 65
  constantPool := pool
  accessFlags := fl
  thisClass := this
  superClass := sup
  interfaces := ifs
  fields := fds
  methods := ms
  attributes := attrs
def plain (name : String) (sup : Option ClassId) : Class where
  name := name
  kind := .ordinary
  loader := none
  accessFlags := 33
  super := sup
  interfaces := #[]
  cf := none
  fields := #[]
  methods := #[]
  instanceTypes := #[]
  staticTypes := #[]
  resolved := #[]
  callSites := []
  init := .initialized
  statics := none
  mirror := none

def pool0 : Array CpInfo := pool [(5, u "<init>"), (0, u "()V"), (1, .class_ 10), (1, u "java/lang/Object")] 113

def k0m0 : Method := { name := "<init>", desc := "()V", sig := { parameters := [], returnType := none }, accessFlags := 1, code := none }
/-- java/lang/Object -/
def k0 : Class := { plain "java/lang/Object" none with
  accessFlags := 33
  interfaces := #[]
  cf := some (fileOf pool0 8 #[] #[{ accessFlags := 1, nameIndex := 5, descriptorIndex := 6, attributes := #[] }] 33 0 #[] #[])
  fields := #[]
  methods := #[k0m0]
  instanceTypes := #[]
  staticTypes := #[]
  resolved := Array.replicate 124 none
  statics := none }

def pool1 : Array CpInfo := pool [(2, .class_ 4), (1, u "java/lang/Object"), (0, u "<init>"), (0, u "()V"), (0, .fieldref 8 9), (0, .class_ 10), (0, .nameAndType 11 12), (0, u "com/example/bonn/bonn/Formula$Operator"), (0, u "EX"), (0, u "Lcom/example/bonn/bonn/Formula$Operator;"), (0, .fieldref 8 14), (0, .nameAndType 15 12), (0, u "AX"), (0, .fieldref 8 17), (0, .nameAndType 18 12), (0, u "EF"), (0, .fieldref 8 20), (0, .nameAndType 21 12), (0, u "AF"), (0, .fieldref 8 23), (0, .nameAndType 24 12), (0, u "EG"), (0, .fieldref 8 26), (0, .nameAndType 27 12), (0, u "AG"), (0, .fieldref 8 29), (0, .nameAndType 30 12), (0, u "EU"), (0, .fieldref 8 32), (0, .nameAndType 33 12), (0, u "AU"), (0, .methodref 35 36), (0, .class_ 37), (0, .nameAndType 38 39), (0, u "com/example/bonn/bonn/OperatorIsExistentialPinLaw"), (0, u "pick"), (0, u "(I)Lcom/example/bonn/bonn/Formula$Operator;"), (0, .methodref 8 41), (0, .nameAndType 42 43), (0, u "isExistential"), (0, u "()Z"), (3, u "law"), (0, u "(I)Z")] 6

def k1m0 : Method := { name := "<init>", desc := "()V", sig := { parameters := [], returnType := none }, accessFlags := 2, code := none }
def k1c1 : Code := { maxStack := 2, maxLocals := 1, code := method_2_code, exceptionTable := #[], attributes := #[] }
def k1m1 : Method := { name := "pick", desc := "(I)Lcom/example/bonn/bonn/Formula$Operator;", sig := { parameters := [.int], returnType := some (.object "com/example/bonn/bonn/Formula$Operator") }, accessFlags := 10, code := some k1c1 }
def k1c2 : Code := { maxStack := 2, maxLocals := 4, code := code, exceptionTable := #[], attributes := #[] }
def k1m2 : Method := { name := "law", desc := "(I)Z", sig := { parameters := [.int], returnType := some .boolean }, accessFlags := 9, code := some k1c2 }
/-- com/example/bonn/bonn/OperatorIsExistentialPinLaw -/
def k1 : Class := { plain "com/example/bonn/bonn/OperatorIsExistentialPinLaw" (some 0) with
  accessFlags := 49
  interfaces := #[]
  cf := some (fileOf pool1 35 #[] #[{ accessFlags := 2, nameIndex := 5, descriptorIndex := 6, attributes := #[] }, { accessFlags := 10, nameIndex := 38, descriptorIndex := 39, attributes := #[] }, { accessFlags := 9, nameIndex := 47, descriptorIndex := 48, attributes := #[] }] 49 2 #[] #[])
  fields := #[]
  methods := #[k1m0, k1m1, k1m2]
  instanceTypes := #[]
  staticTypes := #[]
  resolved := Array.replicate 55 none
  statics := none }

def pool2 : Array CpInfo := pool [(1, .class_ 2), (0, u "java/lang/constant/Constable"), (0, .class_ 4), (0, u "java/lang/Object")] 6

/-- java/lang/constant/Constable -/
def k2 : Class := { plain "java/lang/constant/Constable" (some 0) with
  accessFlags := 1537
  interfaces := #[]
  cf := some (fileOf pool2 1 #[] #[] 1537 3 #[] #[])
  fields := #[]
  methods := #[]
  instanceTypes := #[]
  staticTypes := #[]
  resolved := Array.replicate 11 none
  statics := none }

def pool3 : Array CpInfo := pool [(1, .class_ 2), (0, u "java/lang/Comparable"), (0, .class_ 4), (0, u "java/lang/Object")] 7

/-- java/lang/Comparable -/
def k3 : Class := { plain "java/lang/Comparable" (some 0) with
  accessFlags := 1537
  interfaces := #[]
  cf := some (fileOf pool3 1 #[] #[] 1537 3 #[] #[])
  fields := #[]
  methods := #[]
  instanceTypes := #[]
  staticTypes := #[]
  resolved := Array.replicate 12 none
  statics := none }

def pool4 : Array CpInfo := pool [(1, .class_ 2), (0, u "java/io/Serializable"), (0, .class_ 4), (0, u "java/lang/Object")] 2

/-- java/io/Serializable -/
def k4 : Class := { plain "java/io/Serializable" (some 0) with
  accessFlags := 1537
  interfaces := #[]
  cf := some (fileOf pool4 1 #[] #[] 1537 3 #[] #[])
  fields := #[]
  methods := #[]
  instanceTypes := #[]
  staticTypes := #[]
  resolved := Array.replicate 7 none
  statics := none }

def pool5 : Array CpInfo := pool [(2, .class_ 4), (1, u "java/lang/Enum"), (0, u "name"), (0, u "Ljava/lang/String;"), (2, u "ordinal"), (0, u "I"), (1, .class_ 14), (1, u "java/lang/Object"), (4, u "hash"), (86, .class_ 108), (1, u "java/lang/Enum$EnumDesc"), (2, .class_ 112), (0, u "java/lang/constant/Constable"), (0, .class_ 114), (0, u "java/lang/Comparable"), (0, .class_ 116), (0, u "java/io/Serializable")] 87

/-- java/lang/Enum -/
def k5 : Class := { plain "java/lang/Enum" (some 0) with
  accessFlags := 1057
  interfaces := #[2, 3, 4]
  cf := some (fileOf pool5 2 #[.nestMembers #[106]] #[] 1057 12 #[111, 113, 115] #[{ accessFlags := 18, nameIndex := 5, descriptorIndex := 6, attributes := #[] }, { accessFlags := 18, nameIndex := 9, descriptorIndex := 10, attributes := #[] }, { accessFlags := 2, nameIndex := 19, descriptorIndex := 10, attributes := #[] }])
  fields := #[{ name := "name", type := (.object "java/lang/String"), accessFlags := 18, slot := 0, constantValue := 0 }, { name := "ordinal", type := .int, accessFlags := 18, slot := 1, constantValue := 0 }, { name := "hash", type := .int, accessFlags := 2, slot := 2, constantValue := 0 }]
  methods := #[]
  instanceTypes := #[(.object "java/lang/String"), .int, .int]
  staticTypes := #[]
  resolved := Array.replicate 204 none
  statics := none }

def pool6 : Array CpInfo := pool [(1, .class_ 2), (0, u "com/example/bonn/bonn/Formula$Operator"), (0, .fieldref 1 4), (0, .nameAndType 5 6), (0, u "EX"), (0, u "Lcom/example/bonn/bonn/Formula$Operator;"), (2, u "AX"), (0, .fieldref 1 11), (0, .nameAndType 12 6), (0, u "EF"), (2, u "AF"), (0, .fieldref 1 17), (0, .nameAndType 18 6), (0, u "EG"), (2, u "AG"), (0, .fieldref 1 23), (0, .nameAndType 24 6), (0, u "EU"), (2, u "AU"), (2, u "$VALUES"), (0, u "[Lcom/example/bonn/bonn/Formula$Operator;"), (6, .class_ 40), (1, u "java/lang/Enum"), (27, u "()Z"), (1, u "isExistential"), (5, .class_ 77), (0, u "com/example/bonn/bonn/Formula")] 2

def k6c0 : Code := { maxStack := 2, maxLocals := 1, code := prog_26_method_5_code, exceptionTable := #[], attributes := #[] }
def k6m0 : Method := { name := "isExistential", desc := "()Z", sig := { parameters := [], returnType := some .boolean }, accessFlags := 0, code := some k6c0 }
/-- com/example/bonn/bonn/Formula$Operator -/
def k6 : Class := { plain "com/example/bonn/bonn/Formula$Operator" (some 5) with
  accessFlags := 16432
  interfaces := #[]
  cf := some (fileOf pool6 1 #[.nestHost 76] #[{ accessFlags := 0, nameIndex := 70, descriptorIndex := 68, attributes := #[] }] 16432 38 #[] #[{ accessFlags := 16409, nameIndex := 5, descriptorIndex := 6, attributes := #[] }, { accessFlags := 16409, nameIndex := 9, descriptorIndex := 6, attributes := #[] }, { accessFlags := 16409, nameIndex := 12, descriptorIndex := 6, attributes := #[] }, { accessFlags := 16409, nameIndex := 15, descriptorIndex := 6, attributes := #[] }, { accessFlags := 16409, nameIndex := 18, descriptorIndex := 6, attributes := #[] }, { accessFlags := 16409, nameIndex := 21, descriptorIndex := 6, attributes := #[] }, { accessFlags := 16409, nameIndex := 24, descriptorIndex := 6, attributes := #[] }, { accessFlags := 16409, nameIndex := 27, descriptorIndex := 6, attributes := #[] }, { accessFlags := 4122, nameIndex := 30, descriptorIndex := 31, attributes := #[] }])
  fields := #[{ name := "EX", type := (.object "com/example/bonn/bonn/Formula$Operator"), accessFlags := 16409, slot := 0, constantValue := 0 }, { name := "AX", type := (.object "com/example/bonn/bonn/Formula$Operator"), accessFlags := 16409, slot := 1, constantValue := 0 }, { name := "EF", type := (.object "com/example/bonn/bonn/Formula$Operator"), accessFlags := 16409, slot := 2, constantValue := 0 }, { name := "AF", type := (.object "com/example/bonn/bonn/Formula$Operator"), accessFlags := 16409, slot := 3, constantValue := 0 }, { name := "EG", type := (.object "com/example/bonn/bonn/Formula$Operator"), accessFlags := 16409, slot := 4, constantValue := 0 }, { name := "AG", type := (.object "com/example/bonn/bonn/Formula$Operator"), accessFlags := 16409, slot := 5, constantValue := 0 }, { name := "EU", type := (.object "com/example/bonn/bonn/Formula$Operator"), accessFlags := 16409, slot := 6, constantValue := 0 }, { name := "AU", type := (.object "com/example/bonn/bonn/Formula$Operator"), accessFlags := 16409, slot := 7, constantValue := 0 }, { name := "$VALUES", type := (.array (.object "com/example/bonn/bonn/Formula$Operator")), accessFlags := 4122, slot := 8, constantValue := 0 }]
  methods := #[k6m0]
  instanceTypes := #[(.object "java/lang/String"), .int, .int]
  staticTypes := #[(.object "com/example/bonn/bonn/Formula$Operator"), (.object "com/example/bonn/bonn/Formula$Operator"), (.object "com/example/bonn/bonn/Formula$Operator"), (.object "com/example/bonn/bonn/Formula$Operator"), (.object "com/example/bonn/bonn/Formula$Operator"), (.object "com/example/bonn/bonn/Formula$Operator"), (.object "com/example/bonn/bonn/Formula$Operator"), (.object "com/example/bonn/bonn/Formula$Operator"), (.array (.object "com/example/bonn/bonn/Formula$Operator"))]
  resolved := Array.replicate 80 none
  statics := some 0 }

def pool7 : Array CpInfo := pool [(1, u "java/lang/Cloneable"), (0, .class_ 1), (0, u "java/lang/Object"), (0, .class_ 3)] 3

/-- java/lang/Cloneable -/
def k7 : Class := { plain "java/lang/Cloneable" (some 0) with
  accessFlags := 1537
  interfaces := #[]
  cf := some (fileOf pool7 2 #[] #[] 1537 4 #[] #[])
  fields := #[]
  methods := #[]
  instanceTypes := #[]
  staticTypes := #[]
  resolved := Array.replicate 8 none
  statics := none }

/-- the primitive byte -/
def k8 : Class := { plain "byte" none with kind := .primitive 'B', accessFlags := 0x411 }
/-- [B -/
def k9 : Class := { plain "[B" (some 0) with kind := .array 8 .byte, interfaces := #[7, 4], accessFlags := 1041 }

/-- the primitive int -/
def k10 : Class := { plain "int" none with kind := .primitive 'I', accessFlags := 0x411 }
/-- [I -/
def k11 : Class := { plain "[I" (some 0) with kind := .array 10 .int, interfaces := #[7, 4], accessFlags := 1041 }

def heap : Heap := #[{ cls := 6, slots := #[.ref 1, .ref 7, .ref 3, .ref 2, .ref 4, .ref 8, .ref 5, .ref 6, .null], vm := .statics 6 },
  { cls := 6, slots := #[.null, .int 0, .int 0], vm := .none },
  { cls := 6, slots := #[.null, .int 3, .int 0], vm := .none },
  { cls := 6, slots := #[.null, .int 2, .int 0], vm := .none },
  { cls := 6, slots := #[.null, .int 4, .int 0], vm := .none },
  { cls := 6, slots := #[.null, .int 6, .int 0], vm := .none },
  { cls := 6, slots := #[.null, .int 7, .int 0], vm := .none },
  { cls := 6, slots := #[.null, .int 1, .int 0], vm := .none },
  { cls := 6, slots := #[.null, .int 5, .int 0], vm := .none }]
def classes : Array Class := #[k0, k1, k2, k3, k4, k5, k6, k7, k8, k9, k10, k11]
def interned : List (Array UInt16 × Addr) := []
def slotsUsed : Nat := 33
def theMethod : MethodId := ⟨1, 2⟩
def args0 : Array Value := #[.int 7]
def aboutOver (below : List Frame) : State where
  vm := { classes := classes, interned := interned.toArray }
  heap := heap
  slotsUsed := slotsUsed
  threads := #[{ frames := .invoking theMethod args0 :: below }]
def below0 : List Frame := [.native { method := ⟨0, 0⟩, args := #[] }]
def about1 : State := aboutOver below0
def p0 : Program := .bare "" "" ""
def e0 : Env := launch0.env 0 0 0
theorem w_frames : about1.frames = Frame.invoking theMethod args0 :: below0 := rfl
set_option maxRecDepth 65536 in
theorem w_args : argsFit about1.vm theMethod args0 = true := by decide +kernel
set_option maxRecDepth 65536 in
theorem w_heap : heapFits about1 = true := by decide +kernel
set_option maxRecDepth 65536 in
theorem w_runnable : about1.curStatus? = some .runnable := by decide +kernel
set_option maxRecDepth 65536 in
theorem w_alone : about1.alone = true := by decide +kernel
set_option maxRecDepth 65536 in
theorem w_named : about1.methodNamed? x = some theMethod := by decide +kernel
set_option maxRecDepth 65536 in
theorem w_hears : about1.hears theMethod below0 = true := by decide +kernel
set_option maxRecDepth 65536 in
theorem w_ripe : about1.ripe theMethod args0 below0 = true := by decide +kernel
theorem w_running : about1.status = .running := rfl
set_option maxRecDepth 65536 in
theorem w_room : about1.hasRoom e0.platform room_1 = true :=
  launch0.hasRoom_least _ room_1 (by decide +kernel) (by decide +kernel) (by decide +kernel) (by decide +kernel) (by decide +kernel) (by decide +kernel)
theorem allAtoms_all (ts : List Jvm.Cond) (a : Array Jvm.Value) (st : Jvm.State) : (allAtoms ts).before a st = ts.all (fun c => c.before a st) := by
  induction ts with
  | nil => rfl
  | cons c t ih =>
    show (Jvm.Cond.and c (allAtoms t)).before a st = _
    rw [Jvm.Cond.before_and, ih, List.all_cons]
def words1 : List Jvm.Cond := Jvm.Cond.code x code maxLocals ret :: tables_1
/-- a 'code' word, met by the world's own term for the bytes: nothing is compared byte by byte -/
theorem code_word {y : MethodName} {bytes : ByteArray} {mx : Nat} {rt : Option FieldType} {a : Array Value} {s : State} {m : MethodId} {meth : Method} {c : Code} (h1 : s.methodNamed? y = some m) (h2 : s.vm.method? m = some meth) (h3 : meth.code = some c) (h4 : c.code = bytes)
    (h5 : (c.maxLocals == mx && c.exceptionTable.isEmpty && decide (c.maxStack ≤ mostOperands) && decide (meth.sig.returnType = rt) && !meth.locks && decide (parseMethodDescriptor y.desc = some meth.sig)) = true) : (Jvm.Cond.code y bytes mx rt).before a s = true := by
  simp only [Bool.and_eq_true, beq_iff_eq, Bool.not_eq_true', decide_eq_true_eq] at h5
  obtain ⟨⟨⟨⟨⟨g1, g2⟩, g3⟩, g4⟩, g5⟩, g6⟩ := h5
  simp [Cond.before, Cond.holds, Cond.value, h1, h2, h3, h4, g1, g2, g3, g4, g5, g6]
def isCode : Jvm.Cond → Bool
  | .code _ _ _ _ => true
  | _ => false
theorem all_split {L : List Jvm.Cond} {P : Jvm.Cond → Bool} (h1 : L.all (fun c => isCode c || P c) = true) (h2 : ∀ c ∈ L.filter isCode, P c = true) : L.all P = true := by
  refine List.all_eq_true.mpr fun c hc => ?_
  have h := List.all_eq_true.mp h1 c hc
  rcases Bool.eq_false_or_eq_true (isCode c) with hi | hi
  · exact h2 c (List.mem_filter.mpr ⟨hc, hi⟩)
  · simpa [hi] using h
set_option maxRecDepth 65536 in
theorem w_c0 : (Jvm.Cond.code x code maxLocals ret).before args0 about1 = true := code_word (m := ⟨1, 2⟩) (meth := k1m2) (c := k1c2) (by decide +kernel) rfl rfl rfl (by decide +kernel)
set_option maxRecDepth 65536 in
theorem w_c1 : (Jvm.Cond.code ({ cls := "com/example/bonn/bonn/OperatorIsExistentialPinLaw", name := "pick", desc := "(I)Lcom/example/bonn/bonn/Formula$Operator;" } : Jvm.MethodName) method_2_code (1 : Nat) (Option.some (Jvm.ClassFile.FieldType.object "com/example/bonn/bonn/Formula$Operator"))).before args0 about1 = true := code_word (m := ⟨1, 1⟩) (meth := k1m1) (c := k1c1) (by decide +kernel) rfl rfl rfl (by decide +kernel)
set_option maxRecDepth 65536 in
theorem w_c2 : (Jvm.Cond.code ({ cls := "com/example/bonn/bonn/Formula$Operator", name := "isExistential", desc := "()Z" } : Jvm.MethodName) prog_26_method_5_code (1 : Nat) (Option.some Jvm.ClassFile.FieldType.boolean)).before args0 about1 = true := code_word (m := ⟨6, 0⟩) (meth := k6m0) (c := k6c0) (by decide +kernel) rfl rfl rfl (by decide +kernel)
def codes1 : List Jvm.Cond := [Jvm.Cond.code x code maxLocals ret, Jvm.Cond.code ({ cls := "com/example/bonn/bonn/OperatorIsExistentialPinLaw", name := "pick", desc := "(I)Lcom/example/bonn/bonn/Formula$Operator;" } : Jvm.MethodName) method_2_code (1 : Nat) (Option.some (Jvm.ClassFile.FieldType.object "com/example/bonn/bonn/Formula$Operator")), Jvm.Cond.code ({ cls := "com/example/bonn/bonn/Formula$Operator", name := "isExistential", desc := "()Z" } : Jvm.MethodName) prog_26_method_5_code (1 : Nat) (Option.some Jvm.ClassFile.FieldType.boolean)]
set_option maxRecDepth 65536 in
theorem codes_eq : words1.filter isCode = codes1 := rfl
theorem w_codes : ∀ c ∈ words1.filter isCode, c.before args0 about1 = true := by
  rw [codes_eq]
  intro c hc
  simp only [codes1, List.mem_cons, List.not_mem_nil, or_false] at hc
  rcases hc with rfl | rfl | rfl
  · exact w_c0
  · exact w_c1
  · exact w_c2
set_option maxRecDepth 65536 in
theorem w_t1 : (words1.take 24).all (fun c => isCode c || c.before args0 about1) = true := by decide +kernel
set_option maxRecDepth 65536 in
theorem w_t2 : (words1.drop 24).all (fun c => isCode c || c.before args0 about1) = true := by decide +kernel
theorem w_tables : (allAtoms (Jvm.Cond.code x code maxLocals ret :: tables_1)).before args0 about1 = true := by
  rw [allAtoms_all]
  show words1.all (fun c => c.before args0 about1) = true
  refine all_split ?_ w_codes
  rw [← List.take_append_drop 24 words1, List.all_append, w_t1, w_t2]
  rfl
set_option maxRecDepth 65536 in
theorem w_case : (Jvm.Cond.and given_1 narrow_1).before args0 about1 = true := by decide +kernel
theorem w_applies : (headSpec (Jvm.Cond.code x code maxLocals ret :: tables_1) room_1).applies x e0.platform about1 = true :=
  (Spec.applies_iff w_frames).mpr ⟨w_running, w_runnable, w_alone, w_named, w_hears, w_ripe, w_room, w_tables⟩
theorem atStart : AtStart classFile x code maxLocals ret World_1 tables_1 room_1 Calls_1 rest_1 Pre_1 launch0 p0 e0 about1 theMethod args0 below0 :=
  ⟨lists_1, trivial, launch0.admits_env _ _ _, launch0.least_env, fairChoices_fair.cas, fairChoices_fair.clock, w_frames, w_args, w_heap, w_applies, trivial, trivial, w_case⟩
end start1
theorem witness_1 : WitnessClaimed_1 := ⟨start1.p0, start1.e0, start1.about1, start1.theMethod, start1.args0, start1.below0, start1.atStart⟩
end Jvm.Pilot.@@N@@
