import JvmDerived
import JvmDerived.Pilot.@@N@@Statement
import JvmDerived.Pilot.@@N@@Code
set_option linter.unusedVariables false
set_option linter.unusedSimpArgs false
namespace Jvm.RoadKit
open Sem ClassFile Op Lib Jvm.Stand Jvm.Free Jvm.LawKit
section New
variable {p : Program} {l : Launch} {e : Env} {R : Room} {s : State} {m : MethodId} {args : Array Value} {below : List Frame} {meth : Method} {c : Code} {T : State} {locs : List Loc} {cells slots : Nat}
theorem retI (X : Stand p l e R s m args below meth c T locs cells slots) (hx : p.tables.exec = Jvm.exec) {pc : Nat} {Ls : Array Slot} {z : Int32} {rest : List Value} (hret : meth.sig.returnType = some .int) (hd : decode c.code pc = .ok (.ireturn, 1)) {fs : List Frame}
    (hl : ∀ (f : JFrame) (acts : List Action), f.method = m → f.locked = none → f.entered = [] → (doReturn e (T.setTop f) acts (some (.int z))).1 = T.setFrames fs) : Steps p.tables e below (T.setTop (mkF m pc Ls (.int z :: rest))) (T.setFrames fs) := by
  have hm' : T.vm.method? m = some meth := X.method'
  have hn : narrow .int (.int z) = .int z := rfl
  show Steps p.tables e below (T.setTop { method := m, pc := pc, locals := Ls, stack := _ :: rest, locked := none }) _
  jvm_step X.here [X.here.top, hx, hd, hm', hret, hn]
  first | (intro acts; rw [hl _ acts rfl rfl rfl]) | rw [hl _ _ rfl rfl rfl]
  exact Steps.refl _
end New
end Jvm.RoadKit
namespace Jvm.Pilot.@@N@@
open Jvm Jvm.ClassFile Sem Op Lib Jvm.Free Jvm.Stand Jvm.LawKit Jvm.RoadKit Bundle Jvm.Pilot.@@N@@.Jvm.D
def f1_0 (a1 : Addr) (p2 : Int32) (p3 : Int32) (s0_ALL : Addr) : Int32 := (if a1 = s0_ALL then (if p2 = p3 then (1 : Int32) else (0 : Int32)) else (if (0 : Int32) < p2 then (1 : Int32) else (0 : Int32)))
def f1 (a1 : Addr) (p2 : Int32) (p3 : Int32) (s0_ALL : Addr) : Int32 := ((f1_0 a1 p2 p3 s0_ALL) &&& 1)
def f0_0 (p1 : Int32) (p2 : Int32) (p3 : Int32) (s0_ALL : Addr) (s1_ANY : Addr) : Int64 := ((p2.toInt64 &&& (2147483647 : Int64)) - ((p2.toInt64 &&& (2147483647 : Int64)) / ((p1 &&& (2147483647 : Int32)).toInt64 + (1 : Int64))) * ((p1 &&& (2147483647 : Int32)).toInt64 + (1 : Int64)))
def f0_1 (p1 : Int32) (p2 : Int32) (p3 : Int32) (s0_ALL : Addr) (s1_ANY : Addr) : Int32 := (if (p3 &&& (3 : Int32)) = (1 : Int32) then (p1 &&& (2147483647 : Int32)) else (f0_0 p1 p2 p3 s0_ALL s1_ANY).toInt32)
def f0_2 (p1 : Int32) (p2 : Int32) (p3 : Int32) (s0_ALL : Addr) (s1_ANY : Addr) : Int32 := (if (p3 &&& (3 : Int32)) = (0 : Int32) then (0 : Int32) else (f0_1 p1 p2 p3 s0_ALL s1_ANY))
def f0_3 (p1 : Int32) (p2 : Int32) (p3 : Int32) (s0_ALL : Addr) (s1_ANY : Addr) : Int32 := ((p1 &&& (2147483647 : Int32)) - (f0_2 p1 p2 p3 s0_ALL s1_ANY))
def f0_4 (p1 : Int32) (p2 : Int32) (p3 : Int32) (s0_ALL : Addr) (s1_ANY : Addr) : Int32 := (if (f0_3 p1 p2 p3 s0_ALL s1_ANY) = (0 : Int32) then (1 : Int32) else (0 : Int32))
def f0_5 (p1 : Int32) (p2 : Int32) (p3 : Int32) (s0_ALL : Addr) (s1_ANY : Addr) : Int32 := (if (f0_2 p1 p2 p3 s0_ALL s1_ANY) < (1 : Int32) then (0 : Int32) else (1 : Int32))
def f0_6 (p1 : Int32) (p2 : Int32) (p3 : Int32) (s0_ALL : Addr) (s1_ANY : Addr) : Int32 := (if ((f1_0 s1_ANY (f0_2 p1 p2 p3 s0_ALL s1_ANY) (p1 &&& (2147483647 : Int32)) s0_ALL) &&& 1) = (0 : Int32) then (0 : Int32) else (1 : Int32))
def f0_7 (p1 : Int32) (p2 : Int32) (p3 : Int32) (s0_ALL : Addr) (s1_ANY : Addr) : Int32 := (if ((f1_0 s0_ALL (f0_2 p1 p2 p3 s0_ALL s1_ANY) (p1 &&& (2147483647 : Int32)) s0_ALL) &&& 1) = (0 : Int32) then (1 : Int32) else (f0_6 p1 p2 p3 s0_ALL s1_ANY))
def f0_8 (p1 : Int32) (p2 : Int32) (p3 : Int32) (s0_ALL : Addr) (s1_ANY : Addr) : Int32 := (if (p1 &&& (2147483647 : Int32)) = (0 : Int32) then (1 : Int32) else (f0_7 p1 p2 p3 s0_ALL s1_ANY))
def f0_9 (p1 : Int32) (p2 : Int32) (p3 : Int32) (s0_ALL : Addr) (s1_ANY : Addr) : Int32 := (if (f0_8 p1 p2 p3 s0_ALL s1_ANY) = (0 : Int32) then (0 : Int32) else (1 : Int32))
def f0_10 (p1 : Int32) (p2 : Int32) (p3 : Int32) (s0_ALL : Addr) (s1_ANY : Addr) : Int32 := (if ((f1_0 s1_ANY (f0_2 p1 p2 p3 s0_ALL s1_ANY) (p1 &&& (2147483647 : Int32)) s0_ALL) &&& 1) = (f0_5 p1 p2 p3 s0_ALL s1_ANY) then (f0_9 p1 p2 p3 s0_ALL s1_ANY) else (0 : Int32))
def f0_11 (p1 : Int32) (p2 : Int32) (p3 : Int32) (s0_ALL : Addr) (s1_ANY : Addr) : Int32 := (if ((f1_0 s0_ALL (f0_2 p1 p2 p3 s0_ALL s1_ANY) (p1 &&& (2147483647 : Int32)) s0_ALL) &&& 1) = (f0_4 p1 p2 p3 s0_ALL s1_ANY) then (f0_10 p1 p2 p3 s0_ALL s1_ANY) else (0 : Int32))
def f0 (p1 : Int32) (p2 : Int32) (p3 : Int32) (s0_ALL : Addr) (s1_ANY : Addr) : Int32 := ((f0_11 p1 p2 p3 s0_ALL s1_ANY) &&& 1)
theorem own_max (z : Int32) : 0 ≤ (z &&& (2147483647 : Int32)).toInt := by
  have h1 : (z &&& (2147483647 : Int32)).toBitVec.toNat = z.toBitVec.toNat % 2147483648 := by
    show (z.toBitVec &&& (2147483647 : Int32).toBitVec).toNat = _
    rw [BitVec.toNat_and, show (2147483647 : Int32).toBitVec.toNat = 2 ^ 31 - 1 from by decide, Nat.and_two_pow_sub_one_eq_mod]
  have h2 : (z &&& (2147483647 : Int32)).toInt = (z.toBitVec.toNat % 2147483648 : Nat) := by
    show (z &&& (2147483647 : Int32)).toBitVec.toInt = _
    rw [BitVec.toInt_eq_toNat_cond, h1, if_pos (by omega)]
  rw [h2]; omega
theorem own_nz (p : Int32) : (p &&& (2147483647 : Int32)).toInt64 + (1 : Int64) ≠ 0 := by
  intro h
  have h0 := own_max p
  have h1 := (p &&& (2147483647 : Int32)).toInt_lt
  have h2 := congrArg Int64.toInt h
  rw [Int64.toInt_add, Int32.toInt_toInt64, show (1 : Int64).toInt = 1 from by decide, show (0 : Int64).toInt = 0 from by decide, Int.bmod_def] at h2
  omega
theorem own_law (p1 p2 p3 : Int32) (a b : Addr) (hab : a ≠ b) : f0 p1 p2 p3 a b = 1 := by
  have hs := own_max p1
  have e1 : ∀ h s : Int32, f1_0 a h s a = if h = s then 1 else 0 := fun h s => by rw [f1_0, if_pos rfl]
  have e2 : ∀ h s : Int32, f1_0 b h s a = if (0 : Int32) < h then 1 else 0 := fun h s => by rw [f1_0, if_neg (Ne.symm hab)]
  rw [f0, f0_11, f0_10, f0_9, f0_8, f0_7, f0_6, f0_5, f0_4, f0_3]
  simp only [e1, e2]
  generalize f0_2 p1 p2 p3 a b = h
  generalize p1 &&& (2147483647 : Int32) = s at *
  have c1 : s - h = 0 ↔ h = s := by
    constructor
    · intro q
      have : s = (s - h) + h := by grind
      rw [q] at this; rw [this]; grind
    · rintro rfl; grind
  have c2 : h < 1 ↔ ¬ (0 : Int32) < h := by
    rw [Int32.lt_iff_toInt_lt, Int32.lt_iff_toInt_lt, show (1 : Int32).toInt = 1 from by decide, show (0 : Int32).toInt = 0 from by decide]; omega
  have c3 : h = s → s ≠ 0 → (0 : Int32) < h := by
    rintro rfl q
    rw [Int32.lt_iff_toInt_lt, show (0 : Int32).toInt = 0 from by decide]
    have : h.toInt ≠ 0 := fun z => q (Int32.toInt_inj.mp (by rw [z]; decide))
    omega
  simp only [c1, c2]
  by_cases x : h = s <;> by_cases y : (0 : Int32) < h <;> by_cases z : s = 0
  all_goals first | exact absurd (c3 x z) y | skip
  all_goals first | simp only [if_neg x] | simp only [if_pos x]
  all_goals first | simp only [if_neg y, if_pos y] | simp only [if_pos y, if_neg (not_not_intro y)]
  all_goals first | simp only [if_neg z] | simp only [if_pos z] | skip
  all_goals decide

abbrev own_G (tb : Tables) (e : Env) (below : List Frame) (Q : Outcome → State → Prop) (A : State) : Prop := ∃ s₂ o, Steps tb e below A s₂ ∧ s₂.status = .running ∧ Ended s₂ below o ∧ Q o s₂
theorem own_step {tb : Tables} {e : Env} {below : List Frame} {Q : Outcome → State → Prop} {A B : State} (h : ∀ t, Steps tb e below B t → Steps tb e below A t) (g : own_G tb e below Q B) : own_G tb e below Q A := by
  obtain ⟨s2, o, h1, h2⟩ := g
  exact ⟨s2, o, h _ h1, h2⟩
theorem own_aT {x y : Addr} (h : x = y) : XT.acmp .eq (.ref x) (.ref y) = true ∧ XT.acmp .ne (.ref x) (.ref y) = false := by subst h; exact ⟨by simp [XT.acmp], by simp [XT.acmp]⟩
theorem own_aF {x y : Addr} (h : ¬ x = y) : XT.acmp .eq (.ref x) (.ref y) = false ∧ XT.acmp .ne (.ref x) (.ref y) = true := by simp [XT.acmp, h]
theorem own_cl (x y : Int64) : XT.cmpL x y < 0 ↔ x < y := lw_lt x y
theorem own_cg (x y : Int64) : 0 < XT.cmpL x y ↔ y < x := lw_gt x y
theorem own_ce (x y : Int64) : XT.cmpL x y = 0 ↔ x = y := lw_eq x y
theorem own_fint {args : Array Value} {s : State} {t : Term} {C n d : String} {x : Addr} {k : Int32} (ht : t.eval args s none [] s = some (.ref x)) (h : (Jvm.Cond.eq (.field t C n d) (.int k)).value args s none s [] = some true) : s.fieldOf? x C n d = some (.int k) := by
  obtain ⟨a, b, ha, hb, k1, k2⟩ := cmp_v (Or.inl h)
  cases (Term.int_eval k (args := args) (first := s) (o := none) (idx := []) (s := s)).symm.trans hb
  obtain ⟨z, rfl⟩ := k2
  have e := gotT (Cond.eq_ints ha hb) h
  subst e
  rw [← fld_at ht]; exact ha
theorem own_fref {args : Array Value} {s : State} {t u : Term} {C n d : String} {x y : Addr} (ht : t.eval args s none [] s = some (.ref x)) (hu : u.eval args s none [] s = some (.ref y)) (h : (Jvm.Cond.eq (.field t C n d) u).value args s none s [] = some true) : s.fieldOf? x C n d = some (.ref y) := by
  obtain ⟨a, b, ha, hb, k1, k2⟩ := cmp_v (Or.inl h)
  cases hu.symm.trans hb
  have e := gotT (eq_R ha hb k2.2 rfl) h
  subst e
  rw [← fld_at ht]; exact ha
theorem own_fne {s : State} {C n d : String} {x y : Addr} {a b : Int32} (h1 : s.fieldOf? x C n d = some (.int a)) (h2 : s.fieldOf? y C n d = some (.int b)) (h : a ≠ b) : x ≠ y := by
  rintro rfl
  rw [h1] at h2
  cases h2
  exact h rfl
theorem pd_0 : parseMethodDescriptor "(II)Z" = some ⟨[.int, .int], some .boolean⟩ := by decide +kernel
theorem d1_0 : decode prog_32_method_4_code 0 = .ok (.aload_n 0, 1) := by decide +kernel
theorem d1_1 : decode prog_32_method_4_code 1 = .ok (.getstatic 3, 3) := by decide +kernel
theorem d1_4 : decode prog_32_method_4_code 4 = .ok (.if_acmp .ne 16, 3) := by decide +kernel
theorem d1_7 : decode prog_32_method_4_code 7 = .ok (.iload_n 1, 1) := by decide +kernel
theorem d1_8 : decode prog_32_method_4_code 8 = .ok (.iload_n 2, 1) := by decide +kernel
theorem d1_9 : decode prog_32_method_4_code 9 = .ok (.if_icmp .ne 7, 3) := by decide +kernel
theorem d1_12 : decode prog_32_method_4_code 12 = .ok (.iconst 1, 1) := by decide +kernel
theorem d1_13 : decode prog_32_method_4_code 13 = .ok (.goto 16, 3) := by decide +kernel
theorem d1_16 : decode prog_32_method_4_code 16 = .ok (.iconst 0, 1) := by decide +kernel
theorem d1_17 : decode prog_32_method_4_code 17 = .ok (.goto 12, 3) := by decide +kernel
theorem d1_20 : decode prog_32_method_4_code 20 = .ok (.iload_n 1, 1) := by decide +kernel
theorem d1_21 : decode prog_32_method_4_code 21 = .ok (.ifCond .le 7, 3) := by decide +kernel
theorem d1_24 : decode prog_32_method_4_code 24 = .ok (.iconst 1, 1) := by decide +kernel
theorem d1_25 : decode prog_32_method_4_code 25 = .ok (.goto 4, 3) := by decide +kernel
theorem d1_28 : decode prog_32_method_4_code 28 = .ok (.iconst 0, 1) := by decide +kernel
theorem d1_29 : decode prog_32_method_4_code 29 = .ok (.ireturn, 1) := by decide +kernel
theorem pn_1 : plainName "com/example/keyprint/keyprint/SignerPolicy" = true := by first | (simp [plainName, overriddenIn]; done) | decide +kernel
theorem ef_1 (m : MethodId) (a1 : Addr) (p2 : Int32) (p3 : Int32) : entryFrame m #[(.ref a1), (.int p2), (.int p3)] 3 = mkF m 0 #[.val (.ref a1), .val (.int p2), .val (.int p3)] [] := by first | (simp [entryFrame, mkF, argsToLocals, Value.category]; done) | rfl
def Q1 (Z : State) (a1 : Addr) (p2 : Int32) (p3 : Int32) (s0_ALL : Addr) (h0 : Heap) (n0 : Nat) (v : Option Value) (h : Heap) (L : List Loc) : Prop := v = some (.int (f1 a1 p2 p3 s0_ALL)) ∧ Fr n0 L ∧ h = h0
set_option maxRecDepth 65536 in
set_option maxHeartbeats 40000000 in
theorem rm1 (l : Launch) (Z : State) (a0 : Array Value) (hw : ∀ d ∈ tables_1, d.before a0 Z = true) (ws : List Jvm.Cond) (a1 : Addr) (p2 : Int32) (p3 : Int32) (s0_ALL : Addr) (h0 : Heap) (n0 : Nat) (Z0 : n0 ≤ h0.size) (S_SignerPolicy_ALL : Sta Z h0 "com/example/keyprint/keyprint/SignerPolicy" "ALL" "Lcom/example/keyprint/keyprint/SignerPolicy;" (.ref s0_ALL)) :
    MetFree l (⟨"com/example/keyprint/keyprint/SignerPolicy", "isMetBy", "(II)Z"⟩ : MethodName) (head1 (Jvm.Cond.code (⟨"com/example/keyprint/keyprint/SignerPolicy", "isMetBy", "(II)Z"⟩ : MethodName) prog_32_method_4_code 3 (some .boolean) :: ws) ({ frames := 0, cells := 0, slots := 0, locals := 0 } : Room)) (fun a U => a = #[(.ref a1), (.int p2), (.int p3)] ∧ Z.Warmed39 U.vm ∧ U.heap = h0) (fun _ _ _ _ _ => True) (fun _ U o U' => ∃ v L, o = .returned v ∧ Q1 Z a1 p2 p3 s0_ALL h0 n0 v U'.heap L ∧ FrameEnd U o U' L ({ frames := 0, cells := 0, slots := 0, locals := 0 } : Room).cells ({ frames := 0, cells := 0, slots := 0, locals := 0 } : Room).slots) := by
  refine MetFree.of_bodySF (plainFor_of_name pn_1) hisR ?_
  intro p e s m args below meth c s₁ Bd hml0 hP hK
  obtain ⟨rfl, hZ, hh⟩ := hP
  have hx := Bd.exec
  have hby := Bd.bytes
  have hml : c.maxLocals = 3 := hml0
  have hown : s.vm.findClass "com/example/keyprint/keyprint/SignerPolicy" = some m.cls := findClass_of_methodNamed Bd.named
  have hnm := (name_of_methodNamed Bd.named Bd.method).1
  have X0 : Stand p l e ({ frames := 0, cells := 0, slots := 0, locals := 0 } : Room) s m #[(.ref a1), (.int p2), (.int p3)] below meth c s₁ [] 0 0 := Stand.of_body Bd
  have e0 : s₁.heap = h0 := by rw [← hh, Bd.state]; rfl
  have N0 := Fr.nil n0
  have pre0 : ∀ t, Steps p.tables e below (s₁.setTop (mkF m 0 #[.val (.ref a1), .val (.int p2), .val (.int p3)] [])) t → Steps p.tables e below (s₁.setTop (entryFrame m #[(.ref a1), (.int p2), (.int p3)] 3)) t := fun t k => castTop (ef_1 m a1 p2 p3) k
  refine own_step (Q := fun o U' => ∃ v L, o = .returned v ∧ Q1 Z a1 p2 p3 s0_ALL h0 n0 v U'.heap L ∧ FrameEnd s o U' L ({ frames := 0, cells := 0, slots := 0, locals := 0 } : Room).cells ({ frames := 0, cells := 0, slots := 0, locals := 0 } : Room).slots) pre0 ?_
  obtain ⟨T1, X1, e1, st1⟩ := getS X0 hx hZ (host := "") hown (hw _ (List.mem_of_getElem? (i := 10) rfl)) Via.refl e0 S_SignerPolicy_ALL (g := (mkF m 1 #[.val (.ref a1), .val (.int p2), .val (.int p3)] [(.ref a1)])) rfl (hb hby d1_1)
  have st7 : ∀ t, Steps p.tables e below (T1.setTop (mkF m 29 #[.val (.ref a1), .val (.int p2), .val (.int p3)] [(.int (f1_0 a1 p2 p3 s0_ALL))])) t → Steps p.tables e below (T1.setTop (mkF m 4 #[.val (.ref a1), .val (.int p2), .val (.int p3)] [(.ref s0_ALL), (.ref a1)])) t := by
    intro t k
    by_cases h2 : a1 = s0_ALL
    · have st4 : ∀ t, Steps p.tables e below (T1.setTop (mkF m 29 #[.val (.ref a1), .val (.int p2), .val (.int p3)] [(.int (if p2 = p3 then (1 : Int32) else (0 : Int32)))])) t → Steps p.tables e below (T1.setTop (mkF m 9 #[.val (.ref a1), .val (.int p2), .val (.int p3)] [(.int p3), (.int p2)])) t := by
        intro t k
        by_cases h3 : p2 = p3
        · rw [show (if p2 = p3 then (1 : Int32) else (0 : Int32)) = (1 : Int32) from if_pos h3] at k
          show Steps p.tables e below (T1.setTop (mkF m 9 #[.val (.ref a1), .val (.int p2), .val (.int p3)] [(.int p3), (.int p2)])) _
          refine XS.icmpNo X1.here hx rfl (hb hby d1_9) rfl (teq h3).2 ?_
          show Steps p.tables e below (T1.setTop (mkF m 12 #[.val (.ref a1), .val (.int p2), .val (.int p3)] [])) _
          refine XS.iconst X1.here hx rfl (hb hby d1_12) ?_
          show Steps p.tables e below (T1.setTop (mkF m 13 #[.val (.ref a1), .val (.int p2), .val (.int p3)] [(.int (1 : Int32))])) _
          refine XS.goto X1.here hx rfl (pc0 := 13) (pc' := 29) rfl (hb hby d1_13) (by decide) (by decide) ?_
          exact k
        · rw [show (if p2 = p3 then (1 : Int32) else (0 : Int32)) = (0 : Int32) from if_neg h3] at k
          show Steps p.tables e below (T1.setTop (mkF m 9 #[.val (.ref a1), .val (.int p2), .val (.int p3)] [(.int p3), (.int p2)])) _
          refine XS.icmpYes X1.here hx rfl (pc0 := 9) (pc' := 16) rfl (hb hby d1_9) rfl (feq h3).2 (by decide) (by decide) ?_
          show Steps p.tables e below (T1.setTop (mkF m 16 #[.val (.ref a1), .val (.int p2), .val (.int p3)] [])) _
          refine XS.iconst X1.here hx rfl (hb hby d1_16) ?_
          show Steps p.tables e below (T1.setTop (mkF m 17 #[.val (.ref a1), .val (.int p2), .val (.int p3)] [(.int (0 : Int32))])) _
          refine XS.goto X1.here hx rfl (pc0 := 17) (pc' := 29) rfl (hb hby d1_17) (by decide) (by decide) ?_
          exact k
      rw [show (f1_0 a1 p2 p3 s0_ALL) = (if p2 = p3 then (1 : Int32) else (0 : Int32)) from if_pos h2] at k
      show Steps p.tables e below (T1.setTop (mkF m 4 #[.val (.ref a1), .val (.int p2), .val (.int p3)] [(.ref s0_ALL), (.ref a1)])) _
      refine XT.acmpNo X1.here hx rfl (hb hby d1_4) rfl rfl rfl ((own_aT h2).2) ?_
      show Steps p.tables e below (T1.setTop (mkF m 7 #[.val (.ref a1), .val (.int p2), .val (.int p3)] [])) _
      refine XS.iloadN X1.here hx rfl (hb hby d1_7) rfl ?_
      show Steps p.tables e below (T1.setTop (mkF m 8 #[.val (.ref a1), .val (.int p2), .val (.int p3)] [(.int p2)])) _
      refine XS.iloadN X1.here hx rfl (hb hby d1_8) rfl ?_
      show Steps p.tables e below (T1.setTop (mkF m 9 #[.val (.ref a1), .val (.int p2), .val (.int p3)] [(.int p3), (.int p2)])) _
      refine st4 _ ?_
      exact k
    · have st6 : ∀ t, Steps p.tables e below (T1.setTop (mkF m 29 #[.val (.ref a1), .val (.int p2), .val (.int p3)] [(.int (if (0 : Int32) < p2 then (1 : Int32) else (0 : Int32)))])) t → Steps p.tables e below (T1.setTop (mkF m 21 #[.val (.ref a1), .val (.int p2), .val (.int p3)] [(.int p2)])) t := by
        intro t k
        by_cases h5 : (0 : Int32) < p2
        · rw [show (if (0 : Int32) < p2 then (1 : Int32) else (0 : Int32)) = (1 : Int32) from if_pos h5] at k
          show Steps p.tables e below (T1.setTop (mkF m 21 #[.val (.ref a1), .val (.int p2), .val (.int p3)] [(.int p2)])) _
          refine XS.ifNo X1.here hx rfl (hb hby d1_21) rfl ((if0 _ _).trans (tlt h5).2.2.2) ?_
          show Steps p.tables e below (T1.setTop (mkF m 24 #[.val (.ref a1), .val (.int p2), .val (.int p3)] [])) _
          refine XS.iconst X1.here hx rfl (hb hby d1_24) ?_
          show Steps p.tables e below (T1.setTop (mkF m 25 #[.val (.ref a1), .val (.int p2), .val (.int p3)] [(.int (1 : Int32))])) _
          refine XS.goto X1.here hx rfl (pc0 := 25) (pc' := 29) rfl (hb hby d1_25) (by decide) (by decide) ?_
          exact k
        · rw [show (if (0 : Int32) < p2 then (1 : Int32) else (0 : Int32)) = (0 : Int32) from if_neg h5] at k
          show Steps p.tables e below (T1.setTop (mkF m 21 #[.val (.ref a1), .val (.int p2), .val (.int p3)] [(.int p2)])) _
          refine XS.ifYes X1.here hx rfl (pc0 := 21) (pc' := 28) rfl (hb hby d1_21) rfl ((if0 _ _).trans (flt h5).2.2.2) (by decide) (by decide) ?_
          show Steps p.tables e below (T1.setTop (mkF m 28 #[.val (.ref a1), .val (.int p2), .val (.int p3)] [])) _
          refine XS.iconst X1.here hx rfl (hb hby d1_28) ?_
          exact k
      rw [show (f1_0 a1 p2 p3 s0_ALL) = (if (0 : Int32) < p2 then (1 : Int32) else (0 : Int32)) from if_neg h2] at k
      show Steps p.tables e below (T1.setTop (mkF m 4 #[.val (.ref a1), .val (.int p2), .val (.int p3)] [(.ref s0_ALL), (.ref a1)])) _
      refine XT.acmpYes X1.here hx rfl (pc0 := 4) (pc' := 20) rfl (hb hby d1_4) rfl rfl rfl ((own_aF h2).2) (by decide) (by decide) ?_
      show Steps p.tables e below (T1.setTop (mkF m 20 #[.val (.ref a1), .val (.int p2), .val (.int p3)] [])) _
      refine XS.iloadN X1.here hx rfl (hb hby d1_20) rfl ?_
      show Steps p.tables e below (T1.setTop (mkF m 21 #[.val (.ref a1), .val (.int p2), .val (.int p3)] [(.int p2)])) _
      refine st6 _ ?_
      exact k
  obtain ⟨fs, hr, hrun, hended, hW, hsame⟩ := X1.leave (v := some (.int ((f1_0 a1 p2 p3 s0_ALL) &&& 1))) (fun h => by rw [Bd.returns] at h; cases h)
  refine ⟨_, _, ?_, hrun, hended, _, _, rfl, ?_, ⟨_, rfl⟩, hW, hsame.mono (by decide) (by decide)⟩
  · show Steps p.tables e below (s₁.setTop (mkF m 0 #[.val (.ref a1), .val (.int p2), .val (.int p3)] [])) _
    refine XS.aloadN X0.here hx rfl (hb hby d1_0) rfl rfl ?_
    show Steps p.tables e below (s₁.setTop (mkF m 1 #[.val (.ref a1), .val (.int p2), .val (.int p3)] [(.ref a1)])) _
    refine st1 _ ?_
    show Steps p.tables e below (T1.setTop (mkF m 4 #[.val (.ref a1), .val (.int p2), .val (.int p3)] [(.ref s0_ALL), (.ref a1)])) _
    refine st7 _ ?_
    show Steps p.tables e below (T1.setTop (mkF m 29 #[.val (.ref a1), .val (.int p2), .val (.int p3)] [(.int (f1_0 a1 p2 p3 s0_ALL))])) _
    exact retN X1 hx (t := .boolean) Bd.returns (by simp) (hb hby d1_29) hr
  · show Q1 Z a1 p2 p3 s0_ALL h0 n0 _ T1.heap _
    rw [e1]
    have hf : f1 a1 p2 p3 s0_ALL = ((f1_0 a1 p2 p3 s0_ALL) &&& 1) := rfl
    exact ⟨by rw [hf], N0, rfl⟩
theorem pn_0 : plainName "com/example/keyprint/keyprint/SignerPolicyIsMetByPinLaw" = true := by first | (simp [plainName, overriddenIn]; done) | decide +kernel
theorem ef_0 (m : MethodId) (p1 : Int32) (p2 : Int32) (p3 : Int32) : entryFrame m #[(.int p1), (.int p2), (.int p3)] maxLocals = mkF m 0 #[.val (.int p1), .val (.int p2), .val (.int p3), .unset, .unset, .unset, .unset, .unset, .unset, .unset, .unset, .unset] [] := by first | (simp [entryFrame, mkF, argsToLocals, Value.category, maxLocals]; done) | rfl
def Q0 (Z : State) (p1 : Int32) (p2 : Int32) (p3 : Int32) (s0_ALL : Addr) (s1_ANY : Addr) (h0 : Heap) (n0 : Nat) (v : Option Value) (h : Heap) (L : List Loc) : Prop := v = some (.int (1 : Int32)) ∧ Fr n0 L
set_option maxRecDepth 65536 in
set_option maxHeartbeats 40000000 in
theorem rm0 (l : Launch) (Z : State) (a0 : Array Value) (hw : ∀ d ∈ tables_1, d.before a0 Z = true) (ws : List Jvm.Cond) (p1 : Int32) (p2 : Int32) (p3 : Int32) (s0_ALL : Addr) (s1_ANY : Addr) (h0 : Heap) (n0 : Nat) (Z0 : n0 ≤ h0.size) (S_SignerPolicy_ALL : Sta Z h0 "com/example/keyprint/keyprint/SignerPolicy" "ALL" "Lcom/example/keyprint/keyprint/SignerPolicy;" (.ref s0_ALL)) (E_s0_ALL : Exa Z h0 s0_ALL "com/example/keyprint/keyprint/SignerPolicy") (S_SignerPolicy_ANY : Sta Z h0 "com/example/keyprint/keyprint/SignerPolicy" "ANY" "Lcom/example/keyprint/keyprint/SignerPolicy;" (.ref s1_ANY)) (E_s1_ANY : Exa Z h0 s1_ANY "com/example/keyprint/keyprint/SignerPolicy") (F_s1_ANY_ordinal : Fld Z h0 s1_ANY "java/lang/Enum" "ordinal" "I" (.int (1 : Int32))) (F_s0_ALL_ordinal : Fld Z h0 s0_ALL "java/lang/Enum" "ordinal" "I" (.int (0 : Int32))) (NE_s1_ANY_s0_ALL : s1_ANY ≠ s0_ALL) :
    MetFree l x (head1 (Jvm.Cond.code x code maxLocals ret :: ws) room_1) (fun a U => a = #[(.int p1), (.int p2), (.int p3)] ∧ Z.Warmed39 U.vm ∧ U.heap = h0) (fun _ _ _ _ _ => True) (fun _ U o U' => ∃ v L, o = .returned v ∧ Q0 Z p1 p2 p3 s0_ALL s1_ANY h0 n0 v U'.heap L ∧ FrameEnd U o U' L room_1.cells room_1.slots) := by
  refine MetFree.of_bodySF (plainFor_of_name pn_0) hisR ?_
  intro p e s m args below meth c s₁ Bd hml0 hP hK
  obtain ⟨rfl, hZ, hh⟩ := hP
  have hx := Bd.exec
  have hby := Bd.bytes
  have hml : c.maxLocals = 12 := hml0
  have hown : s.vm.findClass "com/example/keyprint/keyprint/SignerPolicyIsMetByPinLaw" = some m.cls := findClass_of_methodNamed Bd.named
  have hnm := (name_of_methodNamed Bd.named Bd.method).1
  have X0 : Stand p l e room_1 s m #[(.int p1), (.int p2), (.int p3)] below meth c s₁ [] 0 0 := Stand.of_body Bd
  have e0 : s₁.heap = h0 := by rw [← hh, Bd.state]; rfl
  have N0 := Fr.nil n0
  have pre0 : ∀ t, Steps p.tables e below (s₁.setTop (mkF m 0 #[.val (.int p1), .val (.int p2), .val (.int p3), .unset, .unset, .unset, .unset, .unset, .unset, .unset, .unset, .unset] [])) t → Steps p.tables e below (s₁.setTop (entryFrame m #[(.int p1), (.int p2), (.int p3)] maxLocals)) t := fun t k => castTop (ef_0 m p1 p2 p3) k
  refine own_step (Q := fun o U' => ∃ v L, o = .returned v ∧ Q0 Z p1 p2 p3 s0_ALL s1_ANY h0 n0 v U'.heap L ∧ FrameEnd s o U' L room_1.cells room_1.slots) pre0 ?_
  have K0 : Keep h0 h0 [] := Keep.refl h0 []
  have st4 : ∀ t, Steps p.tables e below (s₁.setTop (mkF m 47 #[.val (.int p1), .val (.int p2), .val (.int p3), .val (.int (p1 &&& (2147483647 : Int32))), .val (.int (f0_2 p1 p2 p3 s0_ALL s1_ANY)), .val (.int (p3 &&& (3 : Int32))), .unset, .unset, .unset, .unset, .unset, .unset] [])) t → Steps p.tables e below (s₁.setTop (mkF m 12 #[.val (.int p1), .val (.int p2), .val (.int p3), .val (.int (p1 &&& (2147483647 : Int32))), .unset, .val (.int (p3 &&& (3 : Int32))), .unset, .unset, .unset, .unset, .unset, .unset] [(.int (p3 &&& (3 : Int32)))])) t := by
    intro t k
    by_cases h1 : (p3 &&& (3 : Int32)) = (0 : Int32)
    · rw [show (f0_2 p1 p2 p3 s0_ALL s1_ANY) = (0 : Int32) from if_pos h1] at k
      show Steps p.tables e below (s₁.setTop (mkF m 12 #[.val (.int p1), .val (.int p2), .val (.int p3), .val (.int (p1 &&& (2147483647 : Int32))), .unset, .val (.int (p3 &&& (3 : Int32))), .unset, .unset, .unset, .unset, .unset, .unset] [(.int (p3 &&& (3 : Int32)))])) _
      refine XS.ifNo X0.here hx rfl (hb hby at_12) rfl ((if0 _ _).trans (teq h1).2) ?_
      show Steps p.tables e below (s₁.setTop (mkF m 15 #[.val (.int p1), .val (.int p2), .val (.int p3), .val (.int (p1 &&& (2147483647 : Int32))), .unset, .val (.int (p3 &&& (3 : Int32))), .unset, .unset, .unset, .unset, .unset, .unset] [])) _
      refine XS.iconst X0.here hx rfl (hb hby at_15) ?_
      show Steps p.tables e below (s₁.setTop (mkF m 16 #[.val (.int p1), .val (.int p2), .val (.int p3), .val (.int (p1 &&& (2147483647 : Int32))), .unset, .val (.int (p3 &&& (3 : Int32))), .unset, .unset, .unset, .unset, .unset, .unset] [(.int (0 : Int32))])) _
      refine XS.istore X0.here hx rfl (hb hby at_16) rfl (l' := #[.val (.int p1), .val (.int p2), .val (.int p3), .val (.int (p1 &&& (2147483647 : Int32))), .val (.int (0 : Int32)), .val (.int (p3 &&& (3 : Int32))), .unset, .unset, .unset, .unset, .unset, .unset]) rfl ?_
      show Steps p.tables e below (s₁.setTop (mkF m 18 #[.val (.int p1), .val (.int p2), .val (.int p3), .val (.int (p1 &&& (2147483647 : Int32))), .val (.int (0 : Int32)), .val (.int (p3 &&& (3 : Int32))), .unset, .unset, .unset, .unset, .unset, .unset] [])) _
      refine XS.goto X0.here hx rfl (pc0 := 18) (pc' := 47) rfl (hb hby at_18) (by decide) (by decide) ?_
      exact k
    · have st3 : ∀ t, Steps p.tables e below (s₁.setTop (mkF m 47 #[.val (.int p1), .val (.int p2), .val (.int p3), .val (.int (p1 &&& (2147483647 : Int32))), .val (.int (f0_1 p1 p2 p3 s0_ALL s1_ANY)), .val (.int (p3 &&& (3 : Int32))), .unset, .unset, .unset, .unset, .unset, .unset] [])) t → Steps p.tables e below (s₁.setTop (mkF m 24 #[.val (.int p1), .val (.int p2), .val (.int p3), .val (.int (p1 &&& (2147483647 : Int32))), .unset, .val (.int (p3 &&& (3 : Int32))), .unset, .unset, .unset, .unset, .unset, .unset] [(.int (1 : Int32)), (.int (p3 &&& (3 : Int32)))])) t := by
        intro t k
        by_cases h2 : (p3 &&& (3 : Int32)) = (1 : Int32)
        · rw [show (f0_1 p1 p2 p3 s0_ALL s1_ANY) = (p1 &&& (2147483647 : Int32)) from if_pos h2] at k
          show Steps p.tables e below (s₁.setTop (mkF m 24 #[.val (.int p1), .val (.int p2), .val (.int p3), .val (.int (p1 &&& (2147483647 : Int32))), .unset, .val (.int (p3 &&& (3 : Int32))), .unset, .unset, .unset, .unset, .unset, .unset] [(.int (1 : Int32)), (.int (p3 &&& (3 : Int32)))])) _
          refine XS.icmpNo X0.here hx rfl (hb hby at_24) rfl (teq h2).2 ?_
          show Steps p.tables e below (s₁.setTop (mkF m 27 #[.val (.int p1), .val (.int p2), .val (.int p3), .val (.int (p1 &&& (2147483647 : Int32))), .unset, .val (.int (p3 &&& (3 : Int32))), .unset, .unset, .unset, .unset, .unset, .unset] [])) _
          refine XS.iloadN X0.here hx rfl (hb hby at_27) rfl ?_
          show Steps p.tables e below (s₁.setTop (mkF m 28 #[.val (.int p1), .val (.int p2), .val (.int p3), .val (.int (p1 &&& (2147483647 : Int32))), .unset, .val (.int (p3 &&& (3 : Int32))), .unset, .unset, .unset, .unset, .unset, .unset] [(.int (p1 &&& (2147483647 : Int32)))])) _
          refine XS.istore X0.here hx rfl (hb hby at_28) rfl (l' := #[.val (.int p1), .val (.int p2), .val (.int p3), .val (.int (p1 &&& (2147483647 : Int32))), .val (.int (p1 &&& (2147483647 : Int32))), .val (.int (p3 &&& (3 : Int32))), .unset, .unset, .unset, .unset, .unset, .unset]) rfl ?_
          show Steps p.tables e below (s₁.setTop (mkF m 30 #[.val (.int p1), .val (.int p2), .val (.int p3), .val (.int (p1 &&& (2147483647 : Int32))), .val (.int (p1 &&& (2147483647 : Int32))), .val (.int (p3 &&& (3 : Int32))), .unset, .unset, .unset, .unset, .unset, .unset] [])) _
          refine XS.goto X0.here hx rfl (pc0 := 30) (pc' := 47) rfl (hb hby at_30) (by decide) (by decide) ?_
          exact k
        · rw [show (f0_1 p1 p2 p3 s0_ALL s1_ANY) = (f0_0 p1 p2 p3 s0_ALL s1_ANY).toInt32 from if_neg h2] at k
          show Steps p.tables e below (s₁.setTop (mkF m 24 #[.val (.int p1), .val (.int p2), .val (.int p3), .val (.int (p1 &&& (2147483647 : Int32))), .unset, .val (.int (p3 &&& (3 : Int32))), .unset, .unset, .unset, .unset, .unset, .unset] [(.int (1 : Int32)), (.int (p3 &&& (3 : Int32)))])) _
          refine XS.icmpYes X0.here hx rfl (pc0 := 24) (pc' := 33) rfl (hb hby at_24) rfl (feq h2).2 (by decide) (by decide) ?_
          show Steps p.tables e below (s₁.setTop (mkF m 33 #[.val (.int p1), .val (.int p2), .val (.int p3), .val (.int (p1 &&& (2147483647 : Int32))), .unset, .val (.int (p3 &&& (3 : Int32))), .unset, .unset, .unset, .unset, .unset, .unset] [])) _
          refine XS.iloadN X0.here hx rfl (hb hby at_33) rfl ?_
          show Steps p.tables e below (s₁.setTop (mkF m 34 #[.val (.int p1), .val (.int p2), .val (.int p3), .val (.int (p1 &&& (2147483647 : Int32))), .unset, .val (.int (p3 &&& (3 : Int32))), .unset, .unset, .unset, .unset, .unset, .unset] [(.int p2)])) _
          refine XT.i2l X0.here hx rfl (hb hby at_34) rfl ?_
          show Steps p.tables e below (s₁.setTop (mkF m 35 #[.val (.int p1), .val (.int p2), .val (.int p3), .val (.int (p1 &&& (2147483647 : Int32))), .unset, .val (.int (p3 &&& (3 : Int32))), .unset, .unset, .unset, .unset, .unset, .unset] [(.long p2.toInt64)])) _
          refine X0.ldc2Long hx hown (mvT hZ (hw _ (List.mem_of_getElem? (i := 1) rfl))) (g := (mkF m 35 #[.val (.int p1), .val (.int p2), .val (.int p3), .val (.int (p1 &&& (2147483647 : Int32))), .unset, .val (.int (p3 &&& (3 : Int32))), .unset, .unset, .unset, .unset, .unset, .unset] [(.long p2.toInt64)])) rfl (hb hby at_35) _ ?_
          show Steps p.tables e below (s₁.setTop (mkF m 38 #[.val (.int p1), .val (.int p2), .val (.int p3), .val (.int (p1 &&& (2147483647 : Int32))), .unset, .val (.int (p3 &&& (3 : Int32))), .unset, .unset, .unset, .unset, .unset, .unset] [(.long (2147483647 : Int64)), (.long p2.toInt64)])) _
          refine XT.land X0.here hx rfl (hb hby at_38) rfl ?_
          show Steps p.tables e below (s₁.setTop (mkF m 39 #[.val (.int p1), .val (.int p2), .val (.int p3), .val (.int (p1 &&& (2147483647 : Int32))), .unset, .val (.int (p3 &&& (3 : Int32))), .unset, .unset, .unset, .unset, .unset, .unset] [(.long (p2.toInt64 &&& (2147483647 : Int64)))])) _
          refine XS.iloadN X0.here hx rfl (hb hby at_39) rfl ?_
          show Steps p.tables e below (s₁.setTop (mkF m 40 #[.val (.int p1), .val (.int p2), .val (.int p3), .val (.int (p1 &&& (2147483647 : Int32))), .unset, .val (.int (p3 &&& (3 : Int32))), .unset, .unset, .unset, .unset, .unset, .unset] [(.int (p1 &&& (2147483647 : Int32))), (.long (p2.toInt64 &&& (2147483647 : Int64)))])) _
          refine XT.i2l X0.here hx rfl (hb hby at_40) rfl ?_
          show Steps p.tables e below (s₁.setTop (mkF m 41 #[.val (.int p1), .val (.int p2), .val (.int p3), .val (.int (p1 &&& (2147483647 : Int32))), .unset, .val (.int (p3 &&& (3 : Int32))), .unset, .unset, .unset, .unset, .unset, .unset] [(.long (p1 &&& (2147483647 : Int32)).toInt64), (.long (p2.toInt64 &&& (2147483647 : Int64)))])) _
          refine XT.lconst X0.here hx rfl (hb hby at_41) ?_
          show Steps p.tables e below (s₁.setTop (mkF m 42 #[.val (.int p1), .val (.int p2), .val (.int p3), .val (.int (p1 &&& (2147483647 : Int32))), .unset, .val (.int (p3 &&& (3 : Int32))), .unset, .unset, .unset, .unset, .unset, .unset] [(.long (1 : Int64)), (.long (p1 &&& (2147483647 : Int32)).toInt64), (.long (p2.toInt64 &&& (2147483647 : Int64)))])) _
          refine XT.ladd X0.here hx rfl (hb hby at_42) rfl ?_
          show Steps p.tables e below (s₁.setTop (mkF m 43 #[.val (.int p1), .val (.int p2), .val (.int p3), .val (.int (p1 &&& (2147483647 : Int32))), .unset, .val (.int (p3 &&& (3 : Int32))), .unset, .unset, .unset, .unset, .unset, .unset] [(.long ((p1 &&& (2147483647 : Int32)).toInt64 + (1 : Int64))), (.long (p2.toInt64 &&& (2147483647 : Int64)))])) _
          refine XT.lrem X0.here hx rfl (hb hby at_43) rfl (own_nz p1) ?_
          show Steps p.tables e below (s₁.setTop (mkF m 44 #[.val (.int p1), .val (.int p2), .val (.int p3), .val (.int (p1 &&& (2147483647 : Int32))), .unset, .val (.int (p3 &&& (3 : Int32))), .unset, .unset, .unset, .unset, .unset, .unset] [(.long (f0_0 p1 p2 p3 s0_ALL s1_ANY))])) _
          refine XT.l2i X0.here hx rfl (hb hby at_44) rfl ?_
          show Steps p.tables e below (s₁.setTop (mkF m 45 #[.val (.int p1), .val (.int p2), .val (.int p3), .val (.int (p1 &&& (2147483647 : Int32))), .unset, .val (.int (p3 &&& (3 : Int32))), .unset, .unset, .unset, .unset, .unset, .unset] [(.int (f0_0 p1 p2 p3 s0_ALL s1_ANY).toInt32)])) _
          refine XS.istore X0.here hx rfl (hb hby at_45) rfl (l' := #[.val (.int p1), .val (.int p2), .val (.int p3), .val (.int (p1 &&& (2147483647 : Int32))), .val (.int (f0_0 p1 p2 p3 s0_ALL s1_ANY).toInt32), .val (.int (p3 &&& (3 : Int32))), .unset, .unset, .unset, .unset, .unset, .unset]) rfl ?_
          exact k
      rw [show (f0_2 p1 p2 p3 s0_ALL s1_ANY) = (f0_1 p1 p2 p3 s0_ALL s1_ANY) from if_neg h1] at k
      show Steps p.tables e below (s₁.setTop (mkF m 12 #[.val (.int p1), .val (.int p2), .val (.int p3), .val (.int (p1 &&& (2147483647 : Int32))), .unset, .val (.int (p3 &&& (3 : Int32))), .unset, .unset, .unset, .unset, .unset, .unset] [(.int (p3 &&& (3 : Int32)))])) _
      refine XS.ifYes X0.here hx rfl (pc0 := 12) (pc' := 21) rfl (hb hby at_12) rfl ((if0 _ _).trans (feq h1).2) (by decide) (by decide) ?_
      show Steps p.tables e below (s₁.setTop (mkF m 21 #[.val (.int p1), .val (.int p2), .val (.int p3), .val (.int (p1 &&& (2147483647 : Int32))), .unset, .val (.int (p3 &&& (3 : Int32))), .unset, .unset, .unset, .unset, .unset, .unset] [])) _
      refine XS.iload X0.here hx rfl (hb hby at_21) rfl ?_
      show Steps p.tables e below (s₁.setTop (mkF m 23 #[.val (.int p1), .val (.int p2), .val (.int p3), .val (.int (p1 &&& (2147483647 : Int32))), .unset, .val (.int (p3 &&& (3 : Int32))), .unset, .unset, .unset, .unset, .unset, .unset] [(.int (p3 &&& (3 : Int32)))])) _
      refine XS.iconst X0.here hx rfl (hb hby at_23) ?_
      show Steps p.tables e below (s₁.setTop (mkF m 24 #[.val (.int p1), .val (.int p2), .val (.int p3), .val (.int (p1 &&& (2147483647 : Int32))), .unset, .val (.int (p3 &&& (3 : Int32))), .unset, .unset, .unset, .unset, .unset, .unset] [(.int (1 : Int32)), (.int (p3 &&& (3 : Int32)))])) _
      refine st3 _ ?_
      exact k
  obtain ⟨T5, X5, e5, st5⟩ := getS X0 hx hZ (host := "") hown (hw _ (List.mem_of_getElem? (i := 2) rfl)) Via.refl e0 S_SignerPolicy_ALL (g := (mkF m 47 #[.val (.int p1), .val (.int p2), .val (.int p3), .val (.int (p1 &&& (2147483647 : Int32))), .val (.int (f0_2 p1 p2 p3 s0_ALL s1_ANY)), .val (.int (p3 &&& (3 : Int32))), .unset, .unset, .unset, .unset, .unset, .unset] [])) rfl (hb hby at_47)
  obtain ⟨cq6, kq6, q6a, q6b, q6c⟩ := isOf hZ e5 E_s0_ALL
  obtain ⟨_, _, ⟨T6, L6, k6, n6⟩, -, X6, ⟨Lc6, hQ6, l6, y6, z6⟩, st6⟩ := X5.virtualBack hx (y := (⟨"com/example/keyprint/keyprint/SignerPolicy", "isMetBy", "(II)Z"⟩ : MethodName)) (z := (⟨"com/example/keyprint/keyprint/SignerPolicy", "isMetBy", "(II)Z"⟩ : MethodName)) hown (mvT hZ (hw _ (List.mem_of_getElem? (i := 5) rfl))) (mvT hZ (hw _ (List.mem_of_getElem? (i := 6) rfl))) (notFace_of_selects (args := #[]) (mvT hZ (hw _ (List.mem_of_getElem? (i := 8) rfl)))) (mvT hZ (hw _ (List.mem_of_getElem? (i := 8) rfl))) (mvT hZ (hw _ (List.mem_of_getElem? (i := 7) rfl))) (by decide) (backOf (W := 0) (rm1 l Z a0 hw [] s0_ALL (f0_2 p1 p2 p3 s0_ALL s1_ANY) (p1 &&& (2147483647 : Int32)) s0_ALL h0 n0 Z0 S_SignerPolicy_ALL) hZ (hw _ (List.mem_of_getElem? (i := 9) rfl)) (hw _ (List.mem_of_getElem? (i := 3) rfl)) (by decide) (by decide)) q6a q6c (g := (mkF m 53 #[.val (.int p1), .val (.int p2), .val (.int p3), .val (.int (p1 &&& (2147483647 : Int32))), .val (.int (f0_2 p1 p2 p3 s0_ALL s1_ANY)), .val (.int (p3 &&& (3 : Int32))), .unset, .unset, .unset, .unset, .unset, .unset] [(.int (p1 &&& (2147483647 : Int32))), (.int (f0_2 p1 p2 p3 s0_ALL s1_ANY)), (.ref s0_ALL)])) rfl (by rw [hml]; rfl) (Steps.refl _) (argsL := [(.int (f0_2 p1 p2 p3 s0_ALL s1_ANY)), (.int (p1 &&& (2147483647 : Int32)))]) (rest := []) (lenOf pd_0 rfl) rfl (by show 2 * 0 + _ ≤ _; exact Nat.le_of_eq rfl) (hb hby at_53) (fun _ _ => ⟨rfl, e5, (by decide : 0 + 0 ≤ _), (by decide : 0 + 0 ≤ _)⟩)
  dsimp only [Pt.U, Pt.locs, Pt.cells, Pt.slots] at X6 l6 y6 z6 st6 hQ6
  subst l6 y6 z6
  obtain ⟨hv6, N6q, e6⟩ := hQ6
  rw [show f1 s0_ALL (f0_2 p1 p2 p3 s0_ALL s1_ANY) (p1 &&& (2147483647 : Int32)) s0_ALL = ((f1_0 s0_ALL (f0_2 p1 p2 p3 s0_ALL s1_ANY) (p1 &&& (2147483647 : Int32)) s0_ALL) &&& 1) from rfl] at hv6
  subst hv6
  have N6 := Fr.app N0 N6q
  obtain ⟨T7, X7, e7, st7⟩ := getS X6 hx hZ (host := "") hown (hw _ (List.mem_of_getElem? (i := 11) rfl)) Via.refl e6 S_SignerPolicy_ANY (g := (mkF m 58 #[.val (.int p1), .val (.int p2), .val (.int p3), .val (.int (p1 &&& (2147483647 : Int32))), .val (.int (f0_2 p1 p2 p3 s0_ALL s1_ANY)), .val (.int (p3 &&& (3 : Int32))), .val (.int ((f1_0 s0_ALL (f0_2 p1 p2 p3 s0_ALL s1_ANY) (p1 &&& (2147483647 : Int32)) s0_ALL) &&& 1)), .unset, .unset, .unset, .unset, .unset] [])) rfl (hb hby at_58)
  obtain ⟨cq8, kq8, q8a, q8b, q8c⟩ := isOf hZ e7 E_s1_ANY
  obtain ⟨_, _, ⟨T8, L8, k8, n8⟩, -, X8, ⟨Lc8, hQ8, l8, y8, z8⟩, st8⟩ := X7.virtualBack hx (y := (⟨"com/example/keyprint/keyprint/SignerPolicy", "isMetBy", "(II)Z"⟩ : MethodName)) (z := (⟨"com/example/keyprint/keyprint/SignerPolicy", "isMetBy", "(II)Z"⟩ : MethodName)) hown (mvT hZ (hw _ (List.mem_of_getElem? (i := 5) rfl))) (mvT hZ (hw _ (List.mem_of_getElem? (i := 6) rfl))) (notFace_of_selects (args := #[]) (mvT hZ (hw _ (List.mem_of_getElem? (i := 8) rfl)))) (mvT hZ (hw _ (List.mem_of_getElem? (i := 8) rfl))) (mvT hZ (hw _ (List.mem_of_getElem? (i := 7) rfl))) (by decide) (backOf (W := 0) (rm1 l Z a0 hw [] s1_ANY (f0_2 p1 p2 p3 s0_ALL s1_ANY) (p1 &&& (2147483647 : Int32)) s0_ALL h0 n0 Z0 S_SignerPolicy_ALL) hZ (hw _ (List.mem_of_getElem? (i := 9) rfl)) (hw _ (List.mem_of_getElem? (i := 3) rfl)) (by decide) (by decide)) q8a q8c (g := (mkF m 64 #[.val (.int p1), .val (.int p2), .val (.int p3), .val (.int (p1 &&& (2147483647 : Int32))), .val (.int (f0_2 p1 p2 p3 s0_ALL s1_ANY)), .val (.int (p3 &&& (3 : Int32))), .val (.int ((f1_0 s0_ALL (f0_2 p1 p2 p3 s0_ALL s1_ANY) (p1 &&& (2147483647 : Int32)) s0_ALL) &&& 1)), .unset, .unset, .unset, .unset, .unset] [(.int (p1 &&& (2147483647 : Int32))), (.int (f0_2 p1 p2 p3 s0_ALL s1_ANY)), (.ref s1_ANY)])) rfl (by rw [hml]; rfl) (Steps.refl _) (argsL := [(.int (f0_2 p1 p2 p3 s0_ALL s1_ANY)), (.int (p1 &&& (2147483647 : Int32)))]) (rest := []) (lenOf pd_0 rfl) rfl (by show 2 * 0 + _ ≤ _; exact Nat.le_of_eq rfl) (hb hby at_64) (fun _ _ => ⟨rfl, e7, (by decide : 0 + 0 ≤ _), (by decide : 0 + 0 ≤ _)⟩)
  dsimp only [Pt.U, Pt.locs, Pt.cells, Pt.slots] at X8 l8 y8 z8 st8 hQ8
  subst l8 y8 z8
  obtain ⟨hv8, N8q, e8⟩ := hQ8
  rw [show f1 s1_ANY (f0_2 p1 p2 p3 s0_ALL s1_ANY) (p1 &&& (2147483647 : Int32)) s0_ALL = ((f1_0 s1_ANY (f0_2 p1 p2 p3 s0_ALL s1_ANY) (p1 &&& (2147483647 : Int32)) s0_ALL) &&& 1) from rfl] at hv8
  subst hv8
  have N8 := Fr.app N6 N8q
  have st10 : ∀ t, Steps p.tables e below (T8.setTop (mkF m 85 #[.val (.int p1), .val (.int p2), .val (.int p3), .val (.int (p1 &&& (2147483647 : Int32))), .val (.int (f0_2 p1 p2 p3 s0_ALL s1_ANY)), .val (.int (p3 &&& (3 : Int32))), .val (.int ((f1_0 s0_ALL (f0_2 p1 p2 p3 s0_ALL s1_ANY) (p1 &&& (2147483647 : Int32)) s0_ALL) &&& 1)), .val (.int ((f1_0 s1_ANY (f0_2 p1 p2 p3 s0_ALL s1_ANY) (p1 &&& (2147483647 : Int32)) s0_ALL) &&& 1)), .val (.int (f0_3 p1 p2 p3 s0_ALL s1_ANY)), .unset, .unset, .unset] [(.int (f0_4 p1 p2 p3 s0_ALL s1_ANY))])) t → Steps p.tables e below (T8.setTop (mkF m 77 #[.val (.int p1), .val (.int p2), .val (.int p3), .val (.int (p1 &&& (2147483647 : Int32))), .val (.int (f0_2 p1 p2 p3 s0_ALL s1_ANY)), .val (.int (p3 &&& (3 : Int32))), .val (.int ((f1_0 s0_ALL (f0_2 p1 p2 p3 s0_ALL s1_ANY) (p1 &&& (2147483647 : Int32)) s0_ALL) &&& 1)), .val (.int ((f1_0 s1_ANY (f0_2 p1 p2 p3 s0_ALL s1_ANY) (p1 &&& (2147483647 : Int32)) s0_ALL) &&& 1)), .val (.int (f0_3 p1 p2 p3 s0_ALL s1_ANY)), .unset, .unset, .unset] [(.int (f0_3 p1 p2 p3 s0_ALL s1_ANY))])) t := by
    intro t k
    by_cases h9 : (f0_3 p1 p2 p3 s0_ALL s1_ANY) = (0 : Int32)
    · rw [show (f0_4 p1 p2 p3 s0_ALL s1_ANY) = (1 : Int32) from if_pos h9] at k
      show Steps p.tables e below (T8.setTop (mkF m 77 #[.val (.int p1), .val (.int p2), .val (.int p3), .val (.int (p1 &&& (2147483647 : Int32))), .val (.int (f0_2 p1 p2 p3 s0_ALL s1_ANY)), .val (.int (p3 &&& (3 : Int32))), .val (.int ((f1_0 s0_ALL (f0_2 p1 p2 p3 s0_ALL s1_ANY) (p1 &&& (2147483647 : Int32)) s0_ALL) &&& 1)), .val (.int ((f1_0 s1_ANY (f0_2 p1 p2 p3 s0_ALL s1_ANY) (p1 &&& (2147483647 : Int32)) s0_ALL) &&& 1)), .val (.int (f0_3 p1 p2 p3 s0_ALL s1_ANY)), .unset, .unset, .unset] [(.int (f0_3 p1 p2 p3 s0_ALL s1_ANY))])) _
      refine XS.ifNo X8.here hx rfl (hb hby at_77) rfl ((if0 _ _).trans (teq h9).2) ?_
      show Steps p.tables e below (T8.setTop (mkF m 80 #[.val (.int p1), .val (.int p2), .val (.int p3), .val (.int (p1 &&& (2147483647 : Int32))), .val (.int (f0_2 p1 p2 p3 s0_ALL s1_ANY)), .val (.int (p3 &&& (3 : Int32))), .val (.int ((f1_0 s0_ALL (f0_2 p1 p2 p3 s0_ALL s1_ANY) (p1 &&& (2147483647 : Int32)) s0_ALL) &&& 1)), .val (.int ((f1_0 s1_ANY (f0_2 p1 p2 p3 s0_ALL s1_ANY) (p1 &&& (2147483647 : Int32)) s0_ALL) &&& 1)), .val (.int (f0_3 p1 p2 p3 s0_ALL s1_ANY)), .unset, .unset, .unset] [])) _
      refine XS.iconst X8.here hx rfl (hb hby at_80) ?_
      show Steps p.tables e below (T8.setTop (mkF m 81 #[.val (.int p1), .val (.int p2), .val (.int p3), .val (.int (p1 &&& (2147483647 : Int32))), .val (.int (f0_2 p1 p2 p3 s0_ALL s1_ANY)), .val (.int (p3 &&& (3 : Int32))), .val (.int ((f1_0 s0_ALL (f0_2 p1 p2 p3 s0_ALL s1_ANY) (p1 &&& (2147483647 : Int32)) s0_ALL) &&& 1)), .val (.int ((f1_0 s1_ANY (f0_2 p1 p2 p3 s0_ALL s1_ANY) (p1 &&& (2147483647 : Int32)) s0_ALL) &&& 1)), .val (.int (f0_3 p1 p2 p3 s0_ALL s1_ANY)), .unset, .unset, .unset] [(.int (1 : Int32))])) _
      refine XS.goto X8.here hx rfl (pc0 := 81) (pc' := 85) rfl (hb hby at_81) (by decide) (by decide) ?_
      exact k
    · rw [show (f0_4 p1 p2 p3 s0_ALL s1_ANY) = (0 : Int32) from if_neg h9] at k
      show Steps p.tables e below (T8.setTop (mkF m 77 #[.val (.int p1), .val (.int p2), .val (.int p3), .val (.int (p1 &&& (2147483647 : Int32))), .val (.int (f0_2 p1 p2 p3 s0_ALL s1_ANY)), .val (.int (p3 &&& (3 : Int32))), .val (.int ((f1_0 s0_ALL (f0_2 p1 p2 p3 s0_ALL s1_ANY) (p1 &&& (2147483647 : Int32)) s0_ALL) &&& 1)), .val (.int ((f1_0 s1_ANY (f0_2 p1 p2 p3 s0_ALL s1_ANY) (p1 &&& (2147483647 : Int32)) s0_ALL) &&& 1)), .val (.int (f0_3 p1 p2 p3 s0_ALL s1_ANY)), .unset, .unset, .unset] [(.int (f0_3 p1 p2 p3 s0_ALL s1_ANY))])) _
      refine XS.ifYes X8.here hx rfl (pc0 := 77) (pc' := 84) rfl (hb hby at_77) rfl ((if0 _ _).trans (feq h9).2) (by decide) (by decide) ?_
      show Steps p.tables e below (T8.setTop (mkF m 84 #[.val (.int p1), .val (.int p2), .val (.int p3), .val (.int (p1 &&& (2147483647 : Int32))), .val (.int (f0_2 p1 p2 p3 s0_ALL s1_ANY)), .val (.int (p3 &&& (3 : Int32))), .val (.int ((f1_0 s0_ALL (f0_2 p1 p2 p3 s0_ALL s1_ANY) (p1 &&& (2147483647 : Int32)) s0_ALL) &&& 1)), .val (.int ((f1_0 s1_ANY (f0_2 p1 p2 p3 s0_ALL s1_ANY) (p1 &&& (2147483647 : Int32)) s0_ALL) &&& 1)), .val (.int (f0_3 p1 p2 p3 s0_ALL s1_ANY)), .unset, .unset, .unset] [])) _
      refine XS.iconst X8.here hx rfl (hb hby at_84) ?_
      exact k
  have st12 : ∀ t, Steps p.tables e below (T8.setTop (mkF m 98 #[.val (.int p1), .val (.int p2), .val (.int p3), .val (.int (p1 &&& (2147483647 : Int32))), .val (.int (f0_2 p1 p2 p3 s0_ALL s1_ANY)), .val (.int (p3 &&& (3 : Int32))), .val (.int ((f1_0 s0_ALL (f0_2 p1 p2 p3 s0_ALL s1_ANY) (p1 &&& (2147483647 : Int32)) s0_ALL) &&& 1)), .val (.int ((f1_0 s1_ANY (f0_2 p1 p2 p3 s0_ALL s1_ANY) (p1 &&& (2147483647 : Int32)) s0_ALL) &&& 1)), .val (.int (f0_3 p1 p2 p3 s0_ALL s1_ANY)), .val (.int (f0_4 p1 p2 p3 s0_ALL s1_ANY)), .unset, .unset] [(.int (f0_5 p1 p2 p3 s0_ALL s1_ANY))])) t → Steps p.tables e below (T8.setTop (mkF m 90 #[.val (.int p1), .val (.int p2), .val (.int p3), .val (.int (p1 &&& (2147483647 : Int32))), .val (.int (f0_2 p1 p2 p3 s0_ALL s1_ANY)), .val (.int (p3 &&& (3 : Int32))), .val (.int ((f1_0 s0_ALL (f0_2 p1 p2 p3 s0_ALL s1_ANY) (p1 &&& (2147483647 : Int32)) s0_ALL) &&& 1)), .val (.int ((f1_0 s1_ANY (f0_2 p1 p2 p3 s0_ALL s1_ANY) (p1 &&& (2147483647 : Int32)) s0_ALL) &&& 1)), .val (.int (f0_3 p1 p2 p3 s0_ALL s1_ANY)), .val (.int (f0_4 p1 p2 p3 s0_ALL s1_ANY)), .unset, .unset] [(.int (1 : Int32)), (.int (f0_2 p1 p2 p3 s0_ALL s1_ANY))])) t := by
    intro t k
    by_cases h11 : (f0_2 p1 p2 p3 s0_ALL s1_ANY) < (1 : Int32)
    · rw [show (f0_5 p1 p2 p3 s0_ALL s1_ANY) = (0 : Int32) from if_pos h11] at k
      show Steps p.tables e below (T8.setTop (mkF m 90 #[.val (.int p1), .val (.int p2), .val (.int p3), .val (.int (p1 &&& (2147483647 : Int32))), .val (.int (f0_2 p1 p2 p3 s0_ALL s1_ANY)), .val (.int (p3 &&& (3 : Int32))), .val (.int ((f1_0 s0_ALL (f0_2 p1 p2 p3 s0_ALL s1_ANY) (p1 &&& (2147483647 : Int32)) s0_ALL) &&& 1)), .val (.int ((f1_0 s1_ANY (f0_2 p1 p2 p3 s0_ALL s1_ANY) (p1 &&& (2147483647 : Int32)) s0_ALL) &&& 1)), .val (.int (f0_3 p1 p2 p3 s0_ALL s1_ANY)), .val (.int (f0_4 p1 p2 p3 s0_ALL s1_ANY)), .unset, .unset] [(.int (1 : Int32)), (.int (f0_2 p1 p2 p3 s0_ALL s1_ANY))])) _
      refine XS.icmpYes X8.here hx rfl (pc0 := 90) (pc' := 97) rfl (hb hby at_90) rfl (tlt h11).1 (by decide) (by decide) ?_
      show Steps p.tables e below (T8.setTop (mkF m 97 #[.val (.int p1), .val (.int p2), .val (.int p3), .val (.int (p1 &&& (2147483647 : Int32))), .val (.int (f0_2 p1 p2 p3 s0_ALL s1_ANY)), .val (.int (p3 &&& (3 : Int32))), .val (.int ((f1_0 s0_ALL (f0_2 p1 p2 p3 s0_ALL s1_ANY) (p1 &&& (2147483647 : Int32)) s0_ALL) &&& 1)), .val (.int ((f1_0 s1_ANY (f0_2 p1 p2 p3 s0_ALL s1_ANY) (p1 &&& (2147483647 : Int32)) s0_ALL) &&& 1)), .val (.int (f0_3 p1 p2 p3 s0_ALL s1_ANY)), .val (.int (f0_4 p1 p2 p3 s0_ALL s1_ANY)), .unset, .unset] [])) _
      refine XS.iconst X8.here hx rfl (hb hby at_97) ?_
      exact k
    · rw [show (f0_5 p1 p2 p3 s0_ALL s1_ANY) = (1 : Int32) from if_neg h11] at k
      show Steps p.tables e below (T8.setTop (mkF m 90 #[.val (.int p1), .val (.int p2), .val (.int p3), .val (.int (p1 &&& (2147483647 : Int32))), .val (.int (f0_2 p1 p2 p3 s0_ALL s1_ANY)), .val (.int (p3 &&& (3 : Int32))), .val (.int ((f1_0 s0_ALL (f0_2 p1 p2 p3 s0_ALL s1_ANY) (p1 &&& (2147483647 : Int32)) s0_ALL) &&& 1)), .val (.int ((f1_0 s1_ANY (f0_2 p1 p2 p3 s0_ALL s1_ANY) (p1 &&& (2147483647 : Int32)) s0_ALL) &&& 1)), .val (.int (f0_3 p1 p2 p3 s0_ALL s1_ANY)), .val (.int (f0_4 p1 p2 p3 s0_ALL s1_ANY)), .unset, .unset] [(.int (1 : Int32)), (.int (f0_2 p1 p2 p3 s0_ALL s1_ANY))])) _
      refine XS.icmpNo X8.here hx rfl (hb hby at_90) rfl (flt h11).1 ?_
      show Steps p.tables e below (T8.setTop (mkF m 93 #[.val (.int p1), .val (.int p2), .val (.int p3), .val (.int (p1 &&& (2147483647 : Int32))), .val (.int (f0_2 p1 p2 p3 s0_ALL s1_ANY)), .val (.int (p3 &&& (3 : Int32))), .val (.int ((f1_0 s0_ALL (f0_2 p1 p2 p3 s0_ALL s1_ANY) (p1 &&& (2147483647 : Int32)) s0_ALL) &&& 1)), .val (.int ((f1_0 s1_ANY (f0_2 p1 p2 p3 s0_ALL s1_ANY) (p1 &&& (2147483647 : Int32)) s0_ALL) &&& 1)), .val (.int (f0_3 p1 p2 p3 s0_ALL s1_ANY)), .val (.int (f0_4 p1 p2 p3 s0_ALL s1_ANY)), .unset, .unset] [])) _
      refine XS.iconst X8.here hx rfl (hb hby at_93) ?_
      show Steps p.tables e below (T8.setTop (mkF m 94 #[.val (.int p1), .val (.int p2), .val (.int p3), .val (.int (p1 &&& (2147483647 : Int32))), .val (.int (f0_2 p1 p2 p3 s0_ALL s1_ANY)), .val (.int (p3 &&& (3 : Int32))), .val (.int ((f1_0 s0_ALL (f0_2 p1 p2 p3 s0_ALL s1_ANY) (p1 &&& (2147483647 : Int32)) s0_ALL) &&& 1)), .val (.int ((f1_0 s1_ANY (f0_2 p1 p2 p3 s0_ALL s1_ANY) (p1 &&& (2147483647 : Int32)) s0_ALL) &&& 1)), .val (.int (f0_3 p1 p2 p3 s0_ALL s1_ANY)), .val (.int (f0_4 p1 p2 p3 s0_ALL s1_ANY)), .unset, .unset] [(.int (1 : Int32))])) _
      refine XS.goto X8.here hx rfl (pc0 := 94) (pc' := 98) rfl (hb hby at_94) (by decide) (by decide) ?_
      exact k
  have st18 : ∀ t, Steps p.tables e below (T8.setTop (mkF m 119 #[.val (.int p1), .val (.int p2), .val (.int p3), .val (.int (p1 &&& (2147483647 : Int32))), .val (.int (f0_2 p1 p2 p3 s0_ALL s1_ANY)), .val (.int (p3 &&& (3 : Int32))), .val (.int ((f1_0 s0_ALL (f0_2 p1 p2 p3 s0_ALL s1_ANY) (p1 &&& (2147483647 : Int32)) s0_ALL) &&& 1)), .val (.int ((f1_0 s1_ANY (f0_2 p1 p2 p3 s0_ALL s1_ANY) (p1 &&& (2147483647 : Int32)) s0_ALL) &&& 1)), .val (.int (f0_3 p1 p2 p3 s0_ALL s1_ANY)), .val (.int (f0_4 p1 p2 p3 s0_ALL s1_ANY)), .val (.int (f0_5 p1 p2 p3 s0_ALL s1_ANY)), .unset] [(.int (f0_8 p1 p2 p3 s0_ALL s1_ANY))])) t → Steps p.tables e below (T8.setTop (mkF m 101 #[.val (.int p1), .val (.int p2), .val (.int p3), .val (.int (p1 &&& (2147483647 : Int32))), .val (.int (f0_2 p1 p2 p3 s0_ALL s1_ANY)), .val (.int (p3 &&& (3 : Int32))), .val (.int ((f1_0 s0_ALL (f0_2 p1 p2 p3 s0_ALL s1_ANY) (p1 &&& (2147483647 : Int32)) s0_ALL) &&& 1)), .val (.int ((f1_0 s1_ANY (f0_2 p1 p2 p3 s0_ALL s1_ANY) (p1 &&& (2147483647 : Int32)) s0_ALL) &&& 1)), .val (.int (f0_3 p1 p2 p3 s0_ALL s1_ANY)), .val (.int (f0_4 p1 p2 p3 s0_ALL s1_ANY)), .val (.int (f0_5 p1 p2 p3 s0_ALL s1_ANY)), .unset] [(.int (p1 &&& (2147483647 : Int32)))])) t := by
    intro t k
    by_cases h13 : (p1 &&& (2147483647 : Int32)) = (0 : Int32)
    · rw [show (f0_8 p1 p2 p3 s0_ALL s1_ANY) = (1 : Int32) from if_pos h13] at k
      show Steps p.tables e below (T8.setTop (mkF m 101 #[.val (.int p1), .val (.int p2), .val (.int p3), .val (.int (p1 &&& (2147483647 : Int32))), .val (.int (f0_2 p1 p2 p3 s0_ALL s1_ANY)), .val (.int (p3 &&& (3 : Int32))), .val (.int ((f1_0 s0_ALL (f0_2 p1 p2 p3 s0_ALL s1_ANY) (p1 &&& (2147483647 : Int32)) s0_ALL) &&& 1)), .val (.int ((f1_0 s1_ANY (f0_2 p1 p2 p3 s0_ALL s1_ANY) (p1 &&& (2147483647 : Int32)) s0_ALL) &&& 1)), .val (.int (f0_3 p1 p2 p3 s0_ALL s1_ANY)), .val (.int (f0_4 p1 p2 p3 s0_ALL s1_ANY)), .val (.int (f0_5 p1 p2 p3 s0_ALL s1_ANY)), .unset] [(.int (p1 &&& (2147483647 : Int32)))])) _
      refine XS.ifYes X8.here hx rfl (pc0 := 101) (pc' := 114) rfl (hb hby at_101) rfl ((if0 _ _).trans (teq h13).1) (by decide) (by decide) ?_
      show Steps p.tables e below (T8.setTop (mkF m 114 #[.val (.int p1), .val (.int p2), .val (.int p3), .val (.int (p1 &&& (2147483647 : Int32))), .val (.int (f0_2 p1 p2 p3 s0_ALL s1_ANY)), .val (.int (p3 &&& (3 : Int32))), .val (.int ((f1_0 s0_ALL (f0_2 p1 p2 p3 s0_ALL s1_ANY) (p1 &&& (2147483647 : Int32)) s0_ALL) &&& 1)), .val (.int ((f1_0 s1_ANY (f0_2 p1 p2 p3 s0_ALL s1_ANY) (p1 &&& (2147483647 : Int32)) s0_ALL) &&& 1)), .val (.int (f0_3 p1 p2 p3 s0_ALL s1_ANY)), .val (.int (f0_4 p1 p2 p3 s0_ALL s1_ANY)), .val (.int (f0_5 p1 p2 p3 s0_ALL s1_ANY)), .unset] [])) _
      refine XS.iconst X8.here hx rfl (hb hby at_114) ?_
      show Steps p.tables e below (T8.setTop (mkF m 115 #[.val (.int p1), .val (.int p2), .val (.int p3), .val (.int (p1 &&& (2147483647 : Int32))), .val (.int (f0_2 p1 p2 p3 s0_ALL s1_ANY)), .val (.int (p3 &&& (3 : Int32))), .val (.int ((f1_0 s0_ALL (f0_2 p1 p2 p3 s0_ALL s1_ANY) (p1 &&& (2147483647 : Int32)) s0_ALL) &&& 1)), .val (.int ((f1_0 s1_ANY (f0_2 p1 p2 p3 s0_ALL s1_ANY) (p1 &&& (2147483647 : Int32)) s0_ALL) &&& 1)), .val (.int (f0_3 p1 p2 p3 s0_ALL s1_ANY)), .val (.int (f0_4 p1 p2 p3 s0_ALL s1_ANY)), .val (.int (f0_5 p1 p2 p3 s0_ALL s1_ANY)), .unset] [(.int (1 : Int32))])) _
      refine XS.goto X8.here hx rfl (pc0 := 115) (pc' := 119) rfl (hb hby at_115) (by decide) (by decide) ?_
      exact k
    · have st17 : ∀ t, Steps p.tables e below (T8.setTop (mkF m 119 #[.val (.int p1), .val (.int p2), .val (.int p3), .val (.int (p1 &&& (2147483647 : Int32))), .val (.int (f0_2 p1 p2 p3 s0_ALL s1_ANY)), .val (.int (p3 &&& (3 : Int32))), .val (.int ((f1_0 s0_ALL (f0_2 p1 p2 p3 s0_ALL s1_ANY) (p1 &&& (2147483647 : Int32)) s0_ALL) &&& 1)), .val (.int ((f1_0 s1_ANY (f0_2 p1 p2 p3 s0_ALL s1_ANY) (p1 &&& (2147483647 : Int32)) s0_ALL) &&& 1)), .val (.int (f0_3 p1 p2 p3 s0_ALL s1_ANY)), .val (.int (f0_4 p1 p2 p3 s0_ALL s1_ANY)), .val (.int (f0_5 p1 p2 p3 s0_ALL s1_ANY)), .unset] [(.int (f0_7 p1 p2 p3 s0_ALL s1_ANY))])) t → Steps p.tables e below (T8.setTop (mkF m 106 #[.val (.int p1), .val (.int p2), .val (.int p3), .val (.int (p1 &&& (2147483647 : Int32))), .val (.int (f0_2 p1 p2 p3 s0_ALL s1_ANY)), .val (.int (p3 &&& (3 : Int32))), .val (.int ((f1_0 s0_ALL (f0_2 p1 p2 p3 s0_ALL s1_ANY) (p1 &&& (2147483647 : Int32)) s0_ALL) &&& 1)), .val (.int ((f1_0 s1_ANY (f0_2 p1 p2 p3 s0_ALL s1_ANY) (p1 &&& (2147483647 : Int32)) s0_ALL) &&& 1)), .val (.int (f0_3 p1 p2 p3 s0_ALL s1_ANY)), .val (.int (f0_4 p1 p2 p3 s0_ALL s1_ANY)), .val (.int (f0_5 p1 p2 p3 s0_ALL s1_ANY)), .unset] [(.int ((f1_0 s0_ALL (f0_2 p1 p2 p3 s0_ALL s1_ANY) (p1 &&& (2147483647 : Int32)) s0_ALL) &&& 1))])) t := by
        intro t k
        by_cases h14 : ((f1_0 s0_ALL (f0_2 p1 p2 p3 s0_ALL s1_ANY) (p1 &&& (2147483647 : Int32)) s0_ALL) &&& 1) = (0 : Int32)
        · rw [show (f0_7 p1 p2 p3 s0_ALL s1_ANY) = (1 : Int32) from if_pos h14] at k
          show Steps p.tables e below (T8.setTop (mkF m 106 #[.val (.int p1), .val (.int p2), .val (.int p3), .val (.int (p1 &&& (2147483647 : Int32))), .val (.int (f0_2 p1 p2 p3 s0_ALL s1_ANY)), .val (.int (p3 &&& (3 : Int32))), .val (.int ((f1_0 s0_ALL (f0_2 p1 p2 p3 s0_ALL s1_ANY) (p1 &&& (2147483647 : Int32)) s0_ALL) &&& 1)), .val (.int ((f1_0 s1_ANY (f0_2 p1 p2 p3 s0_ALL s1_ANY) (p1 &&& (2147483647 : Int32)) s0_ALL) &&& 1)), .val (.int (f0_3 p1 p2 p3 s0_ALL s1_ANY)), .val (.int (f0_4 p1 p2 p3 s0_ALL s1_ANY)), .val (.int (f0_5 p1 p2 p3 s0_ALL s1_ANY)), .unset] [(.int ((f1_0 s0_ALL (f0_2 p1 p2 p3 s0_ALL s1_ANY) (p1 &&& (2147483647 : Int32)) s0_ALL) &&& 1))])) _
          refine XS.ifYes X8.here hx rfl (pc0 := 106) (pc' := 114) rfl (hb hby at_106) rfl ((if0 _ _).trans (teq h14).1) (by decide) (by decide) ?_
          show Steps p.tables e below (T8.setTop (mkF m 114 #[.val (.int p1), .val (.int p2), .val (.int p3), .val (.int (p1 &&& (2147483647 : Int32))), .val (.int (f0_2 p1 p2 p3 s0_ALL s1_ANY)), .val (.int (p3 &&& (3 : Int32))), .val (.int ((f1_0 s0_ALL (f0_2 p1 p2 p3 s0_ALL s1_ANY) (p1 &&& (2147483647 : Int32)) s0_ALL) &&& 1)), .val (.int ((f1_0 s1_ANY (f0_2 p1 p2 p3 s0_ALL s1_ANY) (p1 &&& (2147483647 : Int32)) s0_ALL) &&& 1)), .val (.int (f0_3 p1 p2 p3 s0_ALL s1_ANY)), .val (.int (f0_4 p1 p2 p3 s0_ALL s1_ANY)), .val (.int (f0_5 p1 p2 p3 s0_ALL s1_ANY)), .unset] [])) _
          refine XS.iconst X8.here hx rfl (hb hby at_114) ?_
          show Steps p.tables e below (T8.setTop (mkF m 115 #[.val (.int p1), .val (.int p2), .val (.int p3), .val (.int (p1 &&& (2147483647 : Int32))), .val (.int (f0_2 p1 p2 p3 s0_ALL s1_ANY)), .val (.int (p3 &&& (3 : Int32))), .val (.int ((f1_0 s0_ALL (f0_2 p1 p2 p3 s0_ALL s1_ANY) (p1 &&& (2147483647 : Int32)) s0_ALL) &&& 1)), .val (.int ((f1_0 s1_ANY (f0_2 p1 p2 p3 s0_ALL s1_ANY) (p1 &&& (2147483647 : Int32)) s0_ALL) &&& 1)), .val (.int (f0_3 p1 p2 p3 s0_ALL s1_ANY)), .val (.int (f0_4 p1 p2 p3 s0_ALL s1_ANY)), .val (.int (f0_5 p1 p2 p3 s0_ALL s1_ANY)), .unset] [(.int (1 : Int32))])) _
          refine XS.goto X8.here hx rfl (pc0 := 115) (pc' := 119) rfl (hb hby at_115) (by decide) (by decide) ?_
          exact k
        · have st16 : ∀ t, Steps p.tables e below (T8.setTop (mkF m 119 #[.val (.int p1), .val (.int p2), .val (.int p3), .val (.int (p1 &&& (2147483647 : Int32))), .val (.int (f0_2 p1 p2 p3 s0_ALL s1_ANY)), .val (.int (p3 &&& (3 : Int32))), .val (.int ((f1_0 s0_ALL (f0_2 p1 p2 p3 s0_ALL s1_ANY) (p1 &&& (2147483647 : Int32)) s0_ALL) &&& 1)), .val (.int ((f1_0 s1_ANY (f0_2 p1 p2 p3 s0_ALL s1_ANY) (p1 &&& (2147483647 : Int32)) s0_ALL) &&& 1)), .val (.int (f0_3 p1 p2 p3 s0_ALL s1_ANY)), .val (.int (f0_4 p1 p2 p3 s0_ALL s1_ANY)), .val (.int (f0_5 p1 p2 p3 s0_ALL s1_ANY)), .unset] [(.int (f0_6 p1 p2 p3 s0_ALL s1_ANY))])) t → Steps p.tables e below (T8.setTop (mkF m 111 #[.val (.int p1), .val (.int p2), .val (.int p3), .val (.int (p1 &&& (2147483647 : Int32))), .val (.int (f0_2 p1 p2 p3 s0_ALL s1_ANY)), .val (.int (p3 &&& (3 : Int32))), .val (.int ((f1_0 s0_ALL (f0_2 p1 p2 p3 s0_ALL s1_ANY) (p1 &&& (2147483647 : Int32)) s0_ALL) &&& 1)), .val (.int ((f1_0 s1_ANY (f0_2 p1 p2 p3 s0_ALL s1_ANY) (p1 &&& (2147483647 : Int32)) s0_ALL) &&& 1)), .val (.int (f0_3 p1 p2 p3 s0_ALL s1_ANY)), .val (.int (f0_4 p1 p2 p3 s0_ALL s1_ANY)), .val (.int (f0_5 p1 p2 p3 s0_ALL s1_ANY)), .unset] [(.int ((f1_0 s1_ANY (f0_2 p1 p2 p3 s0_ALL s1_ANY) (p1 &&& (2147483647 : Int32)) s0_ALL) &&& 1))])) t := by
            intro t k
            by_cases h15 : ((f1_0 s1_ANY (f0_2 p1 p2 p3 s0_ALL s1_ANY) (p1 &&& (2147483647 : Int32)) s0_ALL) &&& 1) = (0 : Int32)
            · rw [show (f0_6 p1 p2 p3 s0_ALL s1_ANY) = (0 : Int32) from if_pos h15] at k
              show Steps p.tables e below (T8.setTop (mkF m 111 #[.val (.int p1), .val (.int p2), .val (.int p3), .val (.int (p1 &&& (2147483647 : Int32))), .val (.int (f0_2 p1 p2 p3 s0_ALL s1_ANY)), .val (.int (p3 &&& (3 : Int32))), .val (.int ((f1_0 s0_ALL (f0_2 p1 p2 p3 s0_ALL s1_ANY) (p1 &&& (2147483647 : Int32)) s0_ALL) &&& 1)), .val (.int ((f1_0 s1_ANY (f0_2 p1 p2 p3 s0_ALL s1_ANY) (p1 &&& (2147483647 : Int32)) s0_ALL) &&& 1)), .val (.int (f0_3 p1 p2 p3 s0_ALL s1_ANY)), .val (.int (f0_4 p1 p2 p3 s0_ALL s1_ANY)), .val (.int (f0_5 p1 p2 p3 s0_ALL s1_ANY)), .unset] [(.int ((f1_0 s1_ANY (f0_2 p1 p2 p3 s0_ALL s1_ANY) (p1 &&& (2147483647 : Int32)) s0_ALL) &&& 1))])) _
              refine XS.ifYes X8.here hx rfl (pc0 := 111) (pc' := 118) rfl (hb hby at_111) rfl ((if0 _ _).trans (teq h15).1) (by decide) (by decide) ?_
              show Steps p.tables e below (T8.setTop (mkF m 118 #[.val (.int p1), .val (.int p2), .val (.int p3), .val (.int (p1 &&& (2147483647 : Int32))), .val (.int (f0_2 p1 p2 p3 s0_ALL s1_ANY)), .val (.int (p3 &&& (3 : Int32))), .val (.int ((f1_0 s0_ALL (f0_2 p1 p2 p3 s0_ALL s1_ANY) (p1 &&& (2147483647 : Int32)) s0_ALL) &&& 1)), .val (.int ((f1_0 s1_ANY (f0_2 p1 p2 p3 s0_ALL s1_ANY) (p1 &&& (2147483647 : Int32)) s0_ALL) &&& 1)), .val (.int (f0_3 p1 p2 p3 s0_ALL s1_ANY)), .val (.int (f0_4 p1 p2 p3 s0_ALL s1_ANY)), .val (.int (f0_5 p1 p2 p3 s0_ALL s1_ANY)), .unset] [])) _
              refine XS.iconst X8.here hx rfl (hb hby at_118) ?_
              exact k
            · rw [show (f0_6 p1 p2 p3 s0_ALL s1_ANY) = (1 : Int32) from if_neg h15] at k
              show Steps p.tables e below (T8.setTop (mkF m 111 #[.val (.int p1), .val (.int p2), .val (.int p3), .val (.int (p1 &&& (2147483647 : Int32))), .val (.int (f0_2 p1 p2 p3 s0_ALL s1_ANY)), .val (.int (p3 &&& (3 : Int32))), .val (.int ((f1_0 s0_ALL (f0_2 p1 p2 p3 s0_ALL s1_ANY) (p1 &&& (2147483647 : Int32)) s0_ALL) &&& 1)), .val (.int ((f1_0 s1_ANY (f0_2 p1 p2 p3 s0_ALL s1_ANY) (p1 &&& (2147483647 : Int32)) s0_ALL) &&& 1)), .val (.int (f0_3 p1 p2 p3 s0_ALL s1_ANY)), .val (.int (f0_4 p1 p2 p3 s0_ALL s1_ANY)), .val (.int (f0_5 p1 p2 p3 s0_ALL s1_ANY)), .unset] [(.int ((f1_0 s1_ANY (f0_2 p1 p2 p3 s0_ALL s1_ANY) (p1 &&& (2147483647 : Int32)) s0_ALL) &&& 1))])) _
              refine XS.ifNo X8.here hx rfl (hb hby at_111) rfl ((if0 _ _).trans (feq h15).1) ?_
              show Steps p.tables e below (T8.setTop (mkF m 114 #[.val (.int p1), .val (.int p2), .val (.int p3), .val (.int (p1 &&& (2147483647 : Int32))), .val (.int (f0_2 p1 p2 p3 s0_ALL s1_ANY)), .val (.int (p3 &&& (3 : Int32))), .val (.int ((f1_0 s0_ALL (f0_2 p1 p2 p3 s0_ALL s1_ANY) (p1 &&& (2147483647 : Int32)) s0_ALL) &&& 1)), .val (.int ((f1_0 s1_ANY (f0_2 p1 p2 p3 s0_ALL s1_ANY) (p1 &&& (2147483647 : Int32)) s0_ALL) &&& 1)), .val (.int (f0_3 p1 p2 p3 s0_ALL s1_ANY)), .val (.int (f0_4 p1 p2 p3 s0_ALL s1_ANY)), .val (.int (f0_5 p1 p2 p3 s0_ALL s1_ANY)), .unset] [])) _
              refine XS.iconst X8.here hx rfl (hb hby at_114) ?_
              show Steps p.tables e below (T8.setTop (mkF m 115 #[.val (.int p1), .val (.int p2), .val (.int p3), .val (.int (p1 &&& (2147483647 : Int32))), .val (.int (f0_2 p1 p2 p3 s0_ALL s1_ANY)), .val (.int (p3 &&& (3 : Int32))), .val (.int ((f1_0 s0_ALL (f0_2 p1 p2 p3 s0_ALL s1_ANY) (p1 &&& (2147483647 : Int32)) s0_ALL) &&& 1)), .val (.int ((f1_0 s1_ANY (f0_2 p1 p2 p3 s0_ALL s1_ANY) (p1 &&& (2147483647 : Int32)) s0_ALL) &&& 1)), .val (.int (f0_3 p1 p2 p3 s0_ALL s1_ANY)), .val (.int (f0_4 p1 p2 p3 s0_ALL s1_ANY)), .val (.int (f0_5 p1 p2 p3 s0_ALL s1_ANY)), .unset] [(.int (1 : Int32))])) _
              refine XS.goto X8.here hx rfl (pc0 := 115) (pc' := 119) rfl (hb hby at_115) (by decide) (by decide) ?_
              exact k
          rw [show (f0_7 p1 p2 p3 s0_ALL s1_ANY) = (f0_6 p1 p2 p3 s0_ALL s1_ANY) from if_neg h14] at k
          show Steps p.tables e below (T8.setTop (mkF m 106 #[.val (.int p1), .val (.int p2), .val (.int p3), .val (.int (p1 &&& (2147483647 : Int32))), .val (.int (f0_2 p1 p2 p3 s0_ALL s1_ANY)), .val (.int (p3 &&& (3 : Int32))), .val (.int ((f1_0 s0_ALL (f0_2 p1 p2 p3 s0_ALL s1_ANY) (p1 &&& (2147483647 : Int32)) s0_ALL) &&& 1)), .val (.int ((f1_0 s1_ANY (f0_2 p1 p2 p3 s0_ALL s1_ANY) (p1 &&& (2147483647 : Int32)) s0_ALL) &&& 1)), .val (.int (f0_3 p1 p2 p3 s0_ALL s1_ANY)), .val (.int (f0_4 p1 p2 p3 s0_ALL s1_ANY)), .val (.int (f0_5 p1 p2 p3 s0_ALL s1_ANY)), .unset] [(.int ((f1_0 s0_ALL (f0_2 p1 p2 p3 s0_ALL s1_ANY) (p1 &&& (2147483647 : Int32)) s0_ALL) &&& 1))])) _
          refine XS.ifNo X8.here hx rfl (hb hby at_106) rfl ((if0 _ _).trans (feq h14).1) ?_
          show Steps p.tables e below (T8.setTop (mkF m 109 #[.val (.int p1), .val (.int p2), .val (.int p3), .val (.int (p1 &&& (2147483647 : Int32))), .val (.int (f0_2 p1 p2 p3 s0_ALL s1_ANY)), .val (.int (p3 &&& (3 : Int32))), .val (.int ((f1_0 s0_ALL (f0_2 p1 p2 p3 s0_ALL s1_ANY) (p1 &&& (2147483647 : Int32)) s0_ALL) &&& 1)), .val (.int ((f1_0 s1_ANY (f0_2 p1 p2 p3 s0_ALL s1_ANY) (p1 &&& (2147483647 : Int32)) s0_ALL) &&& 1)), .val (.int (f0_3 p1 p2 p3 s0_ALL s1_ANY)), .val (.int (f0_4 p1 p2 p3 s0_ALL s1_ANY)), .val (.int (f0_5 p1 p2 p3 s0_ALL s1_ANY)), .unset] [])) _
          refine XS.iload X8.here hx rfl (hb hby at_109) rfl ?_
          show Steps p.tables e below (T8.setTop (mkF m 111 #[.val (.int p1), .val (.int p2), .val (.int p3), .val (.int (p1 &&& (2147483647 : Int32))), .val (.int (f0_2 p1 p2 p3 s0_ALL s1_ANY)), .val (.int (p3 &&& (3 : Int32))), .val (.int ((f1_0 s0_ALL (f0_2 p1 p2 p3 s0_ALL s1_ANY) (p1 &&& (2147483647 : Int32)) s0_ALL) &&& 1)), .val (.int ((f1_0 s1_ANY (f0_2 p1 p2 p3 s0_ALL s1_ANY) (p1 &&& (2147483647 : Int32)) s0_ALL) &&& 1)), .val (.int (f0_3 p1 p2 p3 s0_ALL s1_ANY)), .val (.int (f0_4 p1 p2 p3 s0_ALL s1_ANY)), .val (.int (f0_5 p1 p2 p3 s0_ALL s1_ANY)), .unset] [(.int ((f1_0 s1_ANY (f0_2 p1 p2 p3 s0_ALL s1_ANY) (p1 &&& (2147483647 : Int32)) s0_ALL) &&& 1))])) _
          refine st16 _ ?_
          exact k
      rw [show (f0_8 p1 p2 p3 s0_ALL s1_ANY) = (f0_7 p1 p2 p3 s0_ALL s1_ANY) from if_neg h13] at k
      show Steps p.tables e below (T8.setTop (mkF m 101 #[.val (.int p1), .val (.int p2), .val (.int p3), .val (.int (p1 &&& (2147483647 : Int32))), .val (.int (f0_2 p1 p2 p3 s0_ALL s1_ANY)), .val (.int (p3 &&& (3 : Int32))), .val (.int ((f1_0 s0_ALL (f0_2 p1 p2 p3 s0_ALL s1_ANY) (p1 &&& (2147483647 : Int32)) s0_ALL) &&& 1)), .val (.int ((f1_0 s1_ANY (f0_2 p1 p2 p3 s0_ALL s1_ANY) (p1 &&& (2147483647 : Int32)) s0_ALL) &&& 1)), .val (.int (f0_3 p1 p2 p3 s0_ALL s1_ANY)), .val (.int (f0_4 p1 p2 p3 s0_ALL s1_ANY)), .val (.int (f0_5 p1 p2 p3 s0_ALL s1_ANY)), .unset] [(.int (p1 &&& (2147483647 : Int32)))])) _
      refine XS.ifNo X8.here hx rfl (hb hby at_101) rfl ((if0 _ _).trans (feq h13).1) ?_
      show Steps p.tables e below (T8.setTop (mkF m 104 #[.val (.int p1), .val (.int p2), .val (.int p3), .val (.int (p1 &&& (2147483647 : Int32))), .val (.int (f0_2 p1 p2 p3 s0_ALL s1_ANY)), .val (.int (p3 &&& (3 : Int32))), .val (.int ((f1_0 s0_ALL (f0_2 p1 p2 p3 s0_ALL s1_ANY) (p1 &&& (2147483647 : Int32)) s0_ALL) &&& 1)), .val (.int ((f1_0 s1_ANY (f0_2 p1 p2 p3 s0_ALL s1_ANY) (p1 &&& (2147483647 : Int32)) s0_ALL) &&& 1)), .val (.int (f0_3 p1 p2 p3 s0_ALL s1_ANY)), .val (.int (f0_4 p1 p2 p3 s0_ALL s1_ANY)), .val (.int (f0_5 p1 p2 p3 s0_ALL s1_ANY)), .unset] [])) _
      refine XS.iload X8.here hx rfl (hb hby at_104) rfl ?_
      show Steps p.tables e below (T8.setTop (mkF m 106 #[.val (.int p1), .val (.int p2), .val (.int p3), .val (.int (p1 &&& (2147483647 : Int32))), .val (.int (f0_2 p1 p2 p3 s0_ALL s1_ANY)), .val (.int (p3 &&& (3 : Int32))), .val (.int ((f1_0 s0_ALL (f0_2 p1 p2 p3 s0_ALL s1_ANY) (p1 &&& (2147483647 : Int32)) s0_ALL) &&& 1)), .val (.int ((f1_0 s1_ANY (f0_2 p1 p2 p3 s0_ALL s1_ANY) (p1 &&& (2147483647 : Int32)) s0_ALL) &&& 1)), .val (.int (f0_3 p1 p2 p3 s0_ALL s1_ANY)), .val (.int (f0_4 p1 p2 p3 s0_ALL s1_ANY)), .val (.int (f0_5 p1 p2 p3 s0_ALL s1_ANY)), .unset] [(.int ((f1_0 s0_ALL (f0_2 p1 p2 p3 s0_ALL s1_ANY) (p1 &&& (2147483647 : Int32)) s0_ALL) &&& 1))])) _
      refine st17 _ ?_
      exact k
  have st24 : ∀ t, Steps p.tables e below (T8.setTop (mkF m 145 #[.val (.int p1), .val (.int p2), .val (.int p3), .val (.int (p1 &&& (2147483647 : Int32))), .val (.int (f0_2 p1 p2 p3 s0_ALL s1_ANY)), .val (.int (p3 &&& (3 : Int32))), .val (.int ((f1_0 s0_ALL (f0_2 p1 p2 p3 s0_ALL s1_ANY) (p1 &&& (2147483647 : Int32)) s0_ALL) &&& 1)), .val (.int ((f1_0 s1_ANY (f0_2 p1 p2 p3 s0_ALL s1_ANY) (p1 &&& (2147483647 : Int32)) s0_ALL) &&& 1)), .val (.int (f0_3 p1 p2 p3 s0_ALL s1_ANY)), .val (.int (f0_4 p1 p2 p3 s0_ALL s1_ANY)), .val (.int (f0_5 p1 p2 p3 s0_ALL s1_ANY)), .val (.int (f0_8 p1 p2 p3 s0_ALL s1_ANY))] [(.int (f0_11 p1 p2 p3 s0_ALL s1_ANY))])) t → Steps p.tables e below (T8.setTop (mkF m 125 #[.val (.int p1), .val (.int p2), .val (.int p3), .val (.int (p1 &&& (2147483647 : Int32))), .val (.int (f0_2 p1 p2 p3 s0_ALL s1_ANY)), .val (.int (p3 &&& (3 : Int32))), .val (.int ((f1_0 s0_ALL (f0_2 p1 p2 p3 s0_ALL s1_ANY) (p1 &&& (2147483647 : Int32)) s0_ALL) &&& 1)), .val (.int ((f1_0 s1_ANY (f0_2 p1 p2 p3 s0_ALL s1_ANY) (p1 &&& (2147483647 : Int32)) s0_ALL) &&& 1)), .val (.int (f0_3 p1 p2 p3 s0_ALL s1_ANY)), .val (.int (f0_4 p1 p2 p3 s0_ALL s1_ANY)), .val (.int (f0_5 p1 p2 p3 s0_ALL s1_ANY)), .val (.int (f0_8 p1 p2 p3 s0_ALL s1_ANY))] [(.int (f0_4 p1 p2 p3 s0_ALL s1_ANY)), (.int ((f1_0 s0_ALL (f0_2 p1 p2 p3 s0_ALL s1_ANY) (p1 &&& (2147483647 : Int32)) s0_ALL) &&& 1))])) t := by
    intro t k
    by_cases h19 : ((f1_0 s0_ALL (f0_2 p1 p2 p3 s0_ALL s1_ANY) (p1 &&& (2147483647 : Int32)) s0_ALL) &&& 1) = (f0_4 p1 p2 p3 s0_ALL s1_ANY)
    · have st23 : ∀ t, Steps p.tables e below (T8.setTop (mkF m 145 #[.val (.int p1), .val (.int p2), .val (.int p3), .val (.int (p1 &&& (2147483647 : Int32))), .val (.int (f0_2 p1 p2 p3 s0_ALL s1_ANY)), .val (.int (p3 &&& (3 : Int32))), .val (.int ((f1_0 s0_ALL (f0_2 p1 p2 p3 s0_ALL s1_ANY) (p1 &&& (2147483647 : Int32)) s0_ALL) &&& 1)), .val (.int ((f1_0 s1_ANY (f0_2 p1 p2 p3 s0_ALL s1_ANY) (p1 &&& (2147483647 : Int32)) s0_ALL) &&& 1)), .val (.int (f0_3 p1 p2 p3 s0_ALL s1_ANY)), .val (.int (f0_4 p1 p2 p3 s0_ALL s1_ANY)), .val (.int (f0_5 p1 p2 p3 s0_ALL s1_ANY)), .val (.int (f0_8 p1 p2 p3 s0_ALL s1_ANY))] [(.int (f0_10 p1 p2 p3 s0_ALL s1_ANY))])) t → Steps p.tables e below (T8.setTop (mkF m 132 #[.val (.int p1), .val (.int p2), .val (.int p3), .val (.int (p1 &&& (2147483647 : Int32))), .val (.int (f0_2 p1 p2 p3 s0_ALL s1_ANY)), .val (.int (p3 &&& (3 : Int32))), .val (.int ((f1_0 s0_ALL (f0_2 p1 p2 p3 s0_ALL s1_ANY) (p1 &&& (2147483647 : Int32)) s0_ALL) &&& 1)), .val (.int ((f1_0 s1_ANY (f0_2 p1 p2 p3 s0_ALL s1_ANY) (p1 &&& (2147483647 : Int32)) s0_ALL) &&& 1)), .val (.int (f0_3 p1 p2 p3 s0_ALL s1_ANY)), .val (.int (f0_4 p1 p2 p3 s0_ALL s1_ANY)), .val (.int (f0_5 p1 p2 p3 s0_ALL s1_ANY)), .val (.int (f0_8 p1 p2 p3 s0_ALL s1_ANY))] [(.int (f0_5 p1 p2 p3 s0_ALL s1_ANY)), (.int ((f1_0 s1_ANY (f0_2 p1 p2 p3 s0_ALL s1_ANY) (p1 &&& (2147483647 : Int32)) s0_ALL) &&& 1))])) t := by
        intro t k
        by_cases h20 : ((f1_0 s1_ANY (f0_2 p1 p2 p3 s0_ALL s1_ANY) (p1 &&& (2147483647 : Int32)) s0_ALL) &&& 1) = (f0_5 p1 p2 p3 s0_ALL s1_ANY)
        · have st22 : ∀ t, Steps p.tables e below (T8.setTop (mkF m 145 #[.val (.int p1), .val (.int p2), .val (.int p3), .val (.int (p1 &&& (2147483647 : Int32))), .val (.int (f0_2 p1 p2 p3 s0_ALL s1_ANY)), .val (.int (p3 &&& (3 : Int32))), .val (.int ((f1_0 s0_ALL (f0_2 p1 p2 p3 s0_ALL s1_ANY) (p1 &&& (2147483647 : Int32)) s0_ALL) &&& 1)), .val (.int ((f1_0 s1_ANY (f0_2 p1 p2 p3 s0_ALL s1_ANY) (p1 &&& (2147483647 : Int32)) s0_ALL) &&& 1)), .val (.int (f0_3 p1 p2 p3 s0_ALL s1_ANY)), .val (.int (f0_4 p1 p2 p3 s0_ALL s1_ANY)), .val (.int (f0_5 p1 p2 p3 s0_ALL s1_ANY)), .val (.int (f0_8 p1 p2 p3 s0_ALL s1_ANY))] [(.int (f0_9 p1 p2 p3 s0_ALL s1_ANY))])) t → Steps p.tables e below (T8.setTop (mkF m 137 #[.val (.int p1), .val (.int p2), .val (.int p3), .val (.int (p1 &&& (2147483647 : Int32))), .val (.int (f0_2 p1 p2 p3 s0_ALL s1_ANY)), .val (.int (p3 &&& (3 : Int32))), .val (.int ((f1_0 s0_ALL (f0_2 p1 p2 p3 s0_ALL s1_ANY) (p1 &&& (2147483647 : Int32)) s0_ALL) &&& 1)), .val (.int ((f1_0 s1_ANY (f0_2 p1 p2 p3 s0_ALL s1_ANY) (p1 &&& (2147483647 : Int32)) s0_ALL) &&& 1)), .val (.int (f0_3 p1 p2 p3 s0_ALL s1_ANY)), .val (.int (f0_4 p1 p2 p3 s0_ALL s1_ANY)), .val (.int (f0_5 p1 p2 p3 s0_ALL s1_ANY)), .val (.int (f0_8 p1 p2 p3 s0_ALL s1_ANY))] [(.int (f0_8 p1 p2 p3 s0_ALL s1_ANY))])) t := by
            intro t k
            by_cases h21 : (f0_8 p1 p2 p3 s0_ALL s1_ANY) = (0 : Int32)
            · rw [show (f0_9 p1 p2 p3 s0_ALL s1_ANY) = (0 : Int32) from if_pos h21] at k
              show Steps p.tables e below (T8.setTop (mkF m 137 #[.val (.int p1), .val (.int p2), .val (.int p3), .val (.int (p1 &&& (2147483647 : Int32))), .val (.int (f0_2 p1 p2 p3 s0_ALL s1_ANY)), .val (.int (p3 &&& (3 : Int32))), .val (.int ((f1_0 s0_ALL (f0_2 p1 p2 p3 s0_ALL s1_ANY) (p1 &&& (2147483647 : Int32)) s0_ALL) &&& 1)), .val (.int ((f1_0 s1_ANY (f0_2 p1 p2 p3 s0_ALL s1_ANY) (p1 &&& (2147483647 : Int32)) s0_ALL) &&& 1)), .val (.int (f0_3 p1 p2 p3 s0_ALL s1_ANY)), .val (.int (f0_4 p1 p2 p3 s0_ALL s1_ANY)), .val (.int (f0_5 p1 p2 p3 s0_ALL s1_ANY)), .val (.int (f0_8 p1 p2 p3 s0_ALL s1_ANY))] [(.int (f0_8 p1 p2 p3 s0_ALL s1_ANY))])) _
              refine XS.ifYes X8.here hx rfl (pc0 := 137) (pc' := 144) rfl (hb hby at_137) rfl ((if0 _ _).trans (teq h21).1) (by decide) (by decide) ?_
              show Steps p.tables e below (T8.setTop (mkF m 144 #[.val (.int p1), .val (.int p2), .val (.int p3), .val (.int (p1 &&& (2147483647 : Int32))), .val (.int (f0_2 p1 p2 p3 s0_ALL s1_ANY)), .val (.int (p3 &&& (3 : Int32))), .val (.int ((f1_0 s0_ALL (f0_2 p1 p2 p3 s0_ALL s1_ANY) (p1 &&& (2147483647 : Int32)) s0_ALL) &&& 1)), .val (.int ((f1_0 s1_ANY (f0_2 p1 p2 p3 s0_ALL s1_ANY) (p1 &&& (2147483647 : Int32)) s0_ALL) &&& 1)), .val (.int (f0_3 p1 p2 p3 s0_ALL s1_ANY)), .val (.int (f0_4 p1 p2 p3 s0_ALL s1_ANY)), .val (.int (f0_5 p1 p2 p3 s0_ALL s1_ANY)), .val (.int (f0_8 p1 p2 p3 s0_ALL s1_ANY))] [])) _
              refine XS.iconst X8.here hx rfl (hb hby at_144) ?_
              exact k
            · rw [show (f0_9 p1 p2 p3 s0_ALL s1_ANY) = (1 : Int32) from if_neg h21] at k
              show Steps p.tables e below (T8.setTop (mkF m 137 #[.val (.int p1), .val (.int p2), .val (.int p3), .val (.int (p1 &&& (2147483647 : Int32))), .val (.int (f0_2 p1 p2 p3 s0_ALL s1_ANY)), .val (.int (p3 &&& (3 : Int32))), .val (.int ((f1_0 s0_ALL (f0_2 p1 p2 p3 s0_ALL s1_ANY) (p1 &&& (2147483647 : Int32)) s0_ALL) &&& 1)), .val (.int ((f1_0 s1_ANY (f0_2 p1 p2 p3 s0_ALL s1_ANY) (p1 &&& (2147483647 : Int32)) s0_ALL) &&& 1)), .val (.int (f0_3 p1 p2 p3 s0_ALL s1_ANY)), .val (.int (f0_4 p1 p2 p3 s0_ALL s1_ANY)), .val (.int (f0_5 p1 p2 p3 s0_ALL s1_ANY)), .val (.int (f0_8 p1 p2 p3 s0_ALL s1_ANY))] [(.int (f0_8 p1 p2 p3 s0_ALL s1_ANY))])) _
              refine XS.ifNo X8.here hx rfl (hb hby at_137) rfl ((if0 _ _).trans (feq h21).1) ?_
              show Steps p.tables e below (T8.setTop (mkF m 140 #[.val (.int p1), .val (.int p2), .val (.int p3), .val (.int (p1 &&& (2147483647 : Int32))), .val (.int (f0_2 p1 p2 p3 s0_ALL s1_ANY)), .val (.int (p3 &&& (3 : Int32))), .val (.int ((f1_0 s0_ALL (f0_2 p1 p2 p3 s0_ALL s1_ANY) (p1 &&& (2147483647 : Int32)) s0_ALL) &&& 1)), .val (.int ((f1_0 s1_ANY (f0_2 p1 p2 p3 s0_ALL s1_ANY) (p1 &&& (2147483647 : Int32)) s0_ALL) &&& 1)), .val (.int (f0_3 p1 p2 p3 s0_ALL s1_ANY)), .val (.int (f0_4 p1 p2 p3 s0_ALL s1_ANY)), .val (.int (f0_5 p1 p2 p3 s0_ALL s1_ANY)), .val (.int (f0_8 p1 p2 p3 s0_ALL s1_ANY))] [])) _
              refine XS.iconst X8.here hx rfl (hb hby at_140) ?_
              show Steps p.tables e below (T8.setTop (mkF m 141 #[.val (.int p1), .val (.int p2), .val (.int p3), .val (.int (p1 &&& (2147483647 : Int32))), .val (.int (f0_2 p1 p2 p3 s0_ALL s1_ANY)), .val (.int (p3 &&& (3 : Int32))), .val (.int ((f1_0 s0_ALL (f0_2 p1 p2 p3 s0_ALL s1_ANY) (p1 &&& (2147483647 : Int32)) s0_ALL) &&& 1)), .val (.int ((f1_0 s1_ANY (f0_2 p1 p2 p3 s0_ALL s1_ANY) (p1 &&& (2147483647 : Int32)) s0_ALL) &&& 1)), .val (.int (f0_3 p1 p2 p3 s0_ALL s1_ANY)), .val (.int (f0_4 p1 p2 p3 s0_ALL s1_ANY)), .val (.int (f0_5 p1 p2 p3 s0_ALL s1_ANY)), .val (.int (f0_8 p1 p2 p3 s0_ALL s1_ANY))] [(.int (1 : Int32))])) _
              refine XS.goto X8.here hx rfl (pc0 := 141) (pc' := 145) rfl (hb hby at_141) (by decide) (by decide) ?_
              exact k
          rw [show (f0_10 p1 p2 p3 s0_ALL s1_ANY) = (f0_9 p1 p2 p3 s0_ALL s1_ANY) from if_pos h20] at k
          show Steps p.tables e below (T8.setTop (mkF m 132 #[.val (.int p1), .val (.int p2), .val (.int p3), .val (.int (p1 &&& (2147483647 : Int32))), .val (.int (f0_2 p1 p2 p3 s0_ALL s1_ANY)), .val (.int (p3 &&& (3 : Int32))), .val (.int ((f1_0 s0_ALL (f0_2 p1 p2 p3 s0_ALL s1_ANY) (p1 &&& (2147483647 : Int32)) s0_ALL) &&& 1)), .val (.int ((f1_0 s1_ANY (f0_2 p1 p2 p3 s0_ALL s1_ANY) (p1 &&& (2147483647 : Int32)) s0_ALL) &&& 1)), .val (.int (f0_3 p1 p2 p3 s0_ALL s1_ANY)), .val (.int (f0_4 p1 p2 p3 s0_ALL s1_ANY)), .val (.int (f0_5 p1 p2 p3 s0_ALL s1_ANY)), .val (.int (f0_8 p1 p2 p3 s0_ALL s1_ANY))] [(.int (f0_5 p1 p2 p3 s0_ALL s1_ANY)), (.int ((f1_0 s1_ANY (f0_2 p1 p2 p3 s0_ALL s1_ANY) (p1 &&& (2147483647 : Int32)) s0_ALL) &&& 1))])) _
          refine XS.icmpNo X8.here hx rfl (hb hby at_132) rfl (teq h20).2 ?_
          show Steps p.tables e below (T8.setTop (mkF m 135 #[.val (.int p1), .val (.int p2), .val (.int p3), .val (.int (p1 &&& (2147483647 : Int32))), .val (.int (f0_2 p1 p2 p3 s0_ALL s1_ANY)), .val (.int (p3 &&& (3 : Int32))), .val (.int ((f1_0 s0_ALL (f0_2 p1 p2 p3 s0_ALL s1_ANY) (p1 &&& (2147483647 : Int32)) s0_ALL) &&& 1)), .val (.int ((f1_0 s1_ANY (f0_2 p1 p2 p3 s0_ALL s1_ANY) (p1 &&& (2147483647 : Int32)) s0_ALL) &&& 1)), .val (.int (f0_3 p1 p2 p3 s0_ALL s1_ANY)), .val (.int (f0_4 p1 p2 p3 s0_ALL s1_ANY)), .val (.int (f0_5 p1 p2 p3 s0_ALL s1_ANY)), .val (.int (f0_8 p1 p2 p3 s0_ALL s1_ANY))] [])) _
          refine XS.iload X8.here hx rfl (hb hby at_135) rfl ?_
          show Steps p.tables e below (T8.setTop (mkF m 137 #[.val (.int p1), .val (.int p2), .val (.int p3), .val (.int (p1 &&& (2147483647 : Int32))), .val (.int (f0_2 p1 p2 p3 s0_ALL s1_ANY)), .val (.int (p3 &&& (3 : Int32))), .val (.int ((f1_0 s0_ALL (f0_2 p1 p2 p3 s0_ALL s1_ANY) (p1 &&& (2147483647 : Int32)) s0_ALL) &&& 1)), .val (.int ((f1_0 s1_ANY (f0_2 p1 p2 p3 s0_ALL s1_ANY) (p1 &&& (2147483647 : Int32)) s0_ALL) &&& 1)), .val (.int (f0_3 p1 p2 p3 s0_ALL s1_ANY)), .val (.int (f0_4 p1 p2 p3 s0_ALL s1_ANY)), .val (.int (f0_5 p1 p2 p3 s0_ALL s1_ANY)), .val (.int (f0_8 p1 p2 p3 s0_ALL s1_ANY))] [(.int (f0_8 p1 p2 p3 s0_ALL s1_ANY))])) _
          refine st22 _ ?_
          exact k
        · rw [show (f0_10 p1 p2 p3 s0_ALL s1_ANY) = (0 : Int32) from if_neg h20] at k
          show Steps p.tables e below (T8.setTop (mkF m 132 #[.val (.int p1), .val (.int p2), .val (.int p3), .val (.int (p1 &&& (2147483647 : Int32))), .val (.int (f0_2 p1 p2 p3 s0_ALL s1_ANY)), .val (.int (p3 &&& (3 : Int32))), .val (.int ((f1_0 s0_ALL (f0_2 p1 p2 p3 s0_ALL s1_ANY) (p1 &&& (2147483647 : Int32)) s0_ALL) &&& 1)), .val (.int ((f1_0 s1_ANY (f0_2 p1 p2 p3 s0_ALL s1_ANY) (p1 &&& (2147483647 : Int32)) s0_ALL) &&& 1)), .val (.int (f0_3 p1 p2 p3 s0_ALL s1_ANY)), .val (.int (f0_4 p1 p2 p3 s0_ALL s1_ANY)), .val (.int (f0_5 p1 p2 p3 s0_ALL s1_ANY)), .val (.int (f0_8 p1 p2 p3 s0_ALL s1_ANY))] [(.int (f0_5 p1 p2 p3 s0_ALL s1_ANY)), (.int ((f1_0 s1_ANY (f0_2 p1 p2 p3 s0_ALL s1_ANY) (p1 &&& (2147483647 : Int32)) s0_ALL) &&& 1))])) _
          refine XS.icmpYes X8.here hx rfl (pc0 := 132) (pc' := 144) rfl (hb hby at_132) rfl (feq h20).2 (by decide) (by decide) ?_
          show Steps p.tables e below (T8.setTop (mkF m 144 #[.val (.int p1), .val (.int p2), .val (.int p3), .val (.int (p1 &&& (2147483647 : Int32))), .val (.int (f0_2 p1 p2 p3 s0_ALL s1_ANY)), .val (.int (p3 &&& (3 : Int32))), .val (.int ((f1_0 s0_ALL (f0_2 p1 p2 p3 s0_ALL s1_ANY) (p1 &&& (2147483647 : Int32)) s0_ALL) &&& 1)), .val (.int ((f1_0 s1_ANY (f0_2 p1 p2 p3 s0_ALL s1_ANY) (p1 &&& (2147483647 : Int32)) s0_ALL) &&& 1)), .val (.int (f0_3 p1 p2 p3 s0_ALL s1_ANY)), .val (.int (f0_4 p1 p2 p3 s0_ALL s1_ANY)), .val (.int (f0_5 p1 p2 p3 s0_ALL s1_ANY)), .val (.int (f0_8 p1 p2 p3 s0_ALL s1_ANY))] [])) _
          refine XS.iconst X8.here hx rfl (hb hby at_144) ?_
          exact k
      rw [show (f0_11 p1 p2 p3 s0_ALL s1_ANY) = (f0_10 p1 p2 p3 s0_ALL s1_ANY) from if_pos h19] at k
      show Steps p.tables e below (T8.setTop (mkF m 125 #[.val (.int p1), .val (.int p2), .val (.int p3), .val (.int (p1 &&& (2147483647 : Int32))), .val (.int (f0_2 p1 p2 p3 s0_ALL s1_ANY)), .val (.int (p3 &&& (3 : Int32))), .val (.int ((f1_0 s0_ALL (f0_2 p1 p2 p3 s0_ALL s1_ANY) (p1 &&& (2147483647 : Int32)) s0_ALL) &&& 1)), .val (.int ((f1_0 s1_ANY (f0_2 p1 p2 p3 s0_ALL s1_ANY) (p1 &&& (2147483647 : Int32)) s0_ALL) &&& 1)), .val (.int (f0_3 p1 p2 p3 s0_ALL s1_ANY)), .val (.int (f0_4 p1 p2 p3 s0_ALL s1_ANY)), .val (.int (f0_5 p1 p2 p3 s0_ALL s1_ANY)), .val (.int (f0_8 p1 p2 p3 s0_ALL s1_ANY))] [(.int (f0_4 p1 p2 p3 s0_ALL s1_ANY)), (.int ((f1_0 s0_ALL (f0_2 p1 p2 p3 s0_ALL s1_ANY) (p1 &&& (2147483647 : Int32)) s0_ALL) &&& 1))])) _
      refine XS.icmpNo X8.here hx rfl (hb hby at_125) rfl (teq h19).2 ?_
      show Steps p.tables e below (T8.setTop (mkF m 128 #[.val (.int p1), .val (.int p2), .val (.int p3), .val (.int (p1 &&& (2147483647 : Int32))), .val (.int (f0_2 p1 p2 p3 s0_ALL s1_ANY)), .val (.int (p3 &&& (3 : Int32))), .val (.int ((f1_0 s0_ALL (f0_2 p1 p2 p3 s0_ALL s1_ANY) (p1 &&& (2147483647 : Int32)) s0_ALL) &&& 1)), .val (.int ((f1_0 s1_ANY (f0_2 p1 p2 p3 s0_ALL s1_ANY) (p1 &&& (2147483647 : Int32)) s0_ALL) &&& 1)), .val (.int (f0_3 p1 p2 p3 s0_ALL s1_ANY)), .val (.int (f0_4 p1 p2 p3 s0_ALL s1_ANY)), .val (.int (f0_5 p1 p2 p3 s0_ALL s1_ANY)), .val (.int (f0_8 p1 p2 p3 s0_ALL s1_ANY))] [])) _
      refine XS.iload X8.here hx rfl (hb hby at_128) rfl ?_
      show Steps p.tables e below (T8.setTop (mkF m 130 #[.val (.int p1), .val (.int p2), .val (.int p3), .val (.int (p1 &&& (2147483647 : Int32))), .val (.int (f0_2 p1 p2 p3 s0_ALL s1_ANY)), .val (.int (p3 &&& (3 : Int32))), .val (.int ((f1_0 s0_ALL (f0_2 p1 p2 p3 s0_ALL s1_ANY) (p1 &&& (2147483647 : Int32)) s0_ALL) &&& 1)), .val (.int ((f1_0 s1_ANY (f0_2 p1 p2 p3 s0_ALL s1_ANY) (p1 &&& (2147483647 : Int32)) s0_ALL) &&& 1)), .val (.int (f0_3 p1 p2 p3 s0_ALL s1_ANY)), .val (.int (f0_4 p1 p2 p3 s0_ALL s1_ANY)), .val (.int (f0_5 p1 p2 p3 s0_ALL s1_ANY)), .val (.int (f0_8 p1 p2 p3 s0_ALL s1_ANY))] [(.int ((f1_0 s1_ANY (f0_2 p1 p2 p3 s0_ALL s1_ANY) (p1 &&& (2147483647 : Int32)) s0_ALL) &&& 1))])) _
      refine XS.iload X8.here hx rfl (hb hby at_130) rfl ?_
      show Steps p.tables e below (T8.setTop (mkF m 132 #[.val (.int p1), .val (.int p2), .val (.int p3), .val (.int (p1 &&& (2147483647 : Int32))), .val (.int (f0_2 p1 p2 p3 s0_ALL s1_ANY)), .val (.int (p3 &&& (3 : Int32))), .val (.int ((f1_0 s0_ALL (f0_2 p1 p2 p3 s0_ALL s1_ANY) (p1 &&& (2147483647 : Int32)) s0_ALL) &&& 1)), .val (.int ((f1_0 s1_ANY (f0_2 p1 p2 p3 s0_ALL s1_ANY) (p1 &&& (2147483647 : Int32)) s0_ALL) &&& 1)), .val (.int (f0_3 p1 p2 p3 s0_ALL s1_ANY)), .val (.int (f0_4 p1 p2 p3 s0_ALL s1_ANY)), .val (.int (f0_5 p1 p2 p3 s0_ALL s1_ANY)), .val (.int (f0_8 p1 p2 p3 s0_ALL s1_ANY))] [(.int (f0_5 p1 p2 p3 s0_ALL s1_ANY)), (.int ((f1_0 s1_ANY (f0_2 p1 p2 p3 s0_ALL s1_ANY) (p1 &&& (2147483647 : Int32)) s0_ALL) &&& 1))])) _
      refine st23 _ ?_
      exact k
    · rw [show (f0_11 p1 p2 p3 s0_ALL s1_ANY) = (0 : Int32) from if_neg h19] at k
      show Steps p.tables e below (T8.setTop (mkF m 125 #[.val (.int p1), .val (.int p2), .val (.int p3), .val (.int (p1 &&& (2147483647 : Int32))), .val (.int (f0_2 p1 p2 p3 s0_ALL s1_ANY)), .val (.int (p3 &&& (3 : Int32))), .val (.int ((f1_0 s0_ALL (f0_2 p1 p2 p3 s0_ALL s1_ANY) (p1 &&& (2147483647 : Int32)) s0_ALL) &&& 1)), .val (.int ((f1_0 s1_ANY (f0_2 p1 p2 p3 s0_ALL s1_ANY) (p1 &&& (2147483647 : Int32)) s0_ALL) &&& 1)), .val (.int (f0_3 p1 p2 p3 s0_ALL s1_ANY)), .val (.int (f0_4 p1 p2 p3 s0_ALL s1_ANY)), .val (.int (f0_5 p1 p2 p3 s0_ALL s1_ANY)), .val (.int (f0_8 p1 p2 p3 s0_ALL s1_ANY))] [(.int (f0_4 p1 p2 p3 s0_ALL s1_ANY)), (.int ((f1_0 s0_ALL (f0_2 p1 p2 p3 s0_ALL s1_ANY) (p1 &&& (2147483647 : Int32)) s0_ALL) &&& 1))])) _
      refine XS.icmpYes X8.here hx rfl (pc0 := 125) (pc' := 144) rfl (hb hby at_125) rfl (feq h19).2 (by decide) (by decide) ?_
      show Steps p.tables e below (T8.setTop (mkF m 144 #[.val (.int p1), .val (.int p2), .val (.int p3), .val (.int (p1 &&& (2147483647 : Int32))), .val (.int (f0_2 p1 p2 p3 s0_ALL s1_ANY)), .val (.int (p3 &&& (3 : Int32))), .val (.int ((f1_0 s0_ALL (f0_2 p1 p2 p3 s0_ALL s1_ANY) (p1 &&& (2147483647 : Int32)) s0_ALL) &&& 1)), .val (.int ((f1_0 s1_ANY (f0_2 p1 p2 p3 s0_ALL s1_ANY) (p1 &&& (2147483647 : Int32)) s0_ALL) &&& 1)), .val (.int (f0_3 p1 p2 p3 s0_ALL s1_ANY)), .val (.int (f0_4 p1 p2 p3 s0_ALL s1_ANY)), .val (.int (f0_5 p1 p2 p3 s0_ALL s1_ANY)), .val (.int (f0_8 p1 p2 p3 s0_ALL s1_ANY))] [])) _
      refine XS.iconst X8.here hx rfl (hb hby at_144) ?_
      exact k
  obtain ⟨fs, hr, hrun, hended, hW, hsame⟩ := X8.leave (v := some (.int ((f0_11 p1 p2 p3 s0_ALL s1_ANY) &&& 1))) (fun h => by rw [Bd.returns] at h; cases h)
  refine ⟨_, _, ?_, hrun, hended, _, _, rfl, ?_, ⟨_, rfl⟩, hW, hsame.mono (by decide) (by decide)⟩
  · show Steps p.tables e below (s₁.setTop (mkF m 0 #[.val (.int p1), .val (.int p2), .val (.int p3), .unset, .unset, .unset, .unset, .unset, .unset, .unset, .unset, .unset] [])) _
    refine XS.iloadN X0.here hx rfl (hb hby at_0) rfl ?_
    show Steps p.tables e below (s₁.setTop (mkF m 1 #[.val (.int p1), .val (.int p2), .val (.int p3), .unset, .unset, .unset, .unset, .unset, .unset, .unset, .unset, .unset] [(.int p1)])) _
    refine X0.ldcInt hx hown (mvT hZ (hw _ (List.mem_of_getElem? (i := 0) rfl))) (g := (mkF m 1 #[.val (.int p1), .val (.int p2), .val (.int p3), .unset, .unset, .unset, .unset, .unset, .unset, .unset, .unset, .unset] [(.int p1)])) rfl (hb hby at_1) _ ?_
    show Steps p.tables e below (s₁.setTop (mkF m 3 #[.val (.int p1), .val (.int p2), .val (.int p3), .unset, .unset, .unset, .unset, .unset, .unset, .unset, .unset, .unset] [(.int (2147483647 : Int32)), (.int p1)])) _
    refine XS.iand X0.here hx rfl (hb hby at_3) rfl ?_
    show Steps p.tables e below (s₁.setTop (mkF m 4 #[.val (.int p1), .val (.int p2), .val (.int p3), .unset, .unset, .unset, .unset, .unset, .unset, .unset, .unset, .unset] [(.int (p1 &&& (2147483647 : Int32)))])) _
    refine XS.istoreN X0.here hx rfl (hb hby at_4) rfl (l' := #[.val (.int p1), .val (.int p2), .val (.int p3), .val (.int (p1 &&& (2147483647 : Int32))), .unset, .unset, .unset, .unset, .unset, .unset, .unset, .unset]) rfl ?_
    show Steps p.tables e below (s₁.setTop (mkF m 5 #[.val (.int p1), .val (.int p2), .val (.int p3), .val (.int (p1 &&& (2147483647 : Int32))), .unset, .unset, .unset, .unset, .unset, .unset, .unset, .unset] [])) _
    refine XS.iloadN X0.here hx rfl (hb hby at_5) rfl ?_
    show Steps p.tables e below (s₁.setTop (mkF m 6 #[.val (.int p1), .val (.int p2), .val (.int p3), .val (.int (p1 &&& (2147483647 : Int32))), .unset, .unset, .unset, .unset, .unset, .unset, .unset, .unset] [(.int p3)])) _
    refine XS.iconst X0.here hx rfl (hb hby at_6) ?_
    show Steps p.tables e below (s₁.setTop (mkF m 7 #[.val (.int p1), .val (.int p2), .val (.int p3), .val (.int (p1 &&& (2147483647 : Int32))), .unset, .unset, .unset, .unset, .unset, .unset, .unset, .unset] [(.int (3 : Int32)), (.int p3)])) _
    refine XS.iand X0.here hx rfl (hb hby at_7) rfl ?_
    show Steps p.tables e below (s₁.setTop (mkF m 8 #[.val (.int p1), .val (.int p2), .val (.int p3), .val (.int (p1 &&& (2147483647 : Int32))), .unset, .unset, .unset, .unset, .unset, .unset, .unset, .unset] [(.int (p3 &&& (3 : Int32)))])) _
    refine XS.istore X0.here hx rfl (hb hby at_8) rfl (l' := #[.val (.int p1), .val (.int p2), .val (.int p3), .val (.int (p1 &&& (2147483647 : Int32))), .unset, .val (.int (p3 &&& (3 : Int32))), .unset, .unset, .unset, .unset, .unset, .unset]) rfl ?_
    show Steps p.tables e below (s₁.setTop (mkF m 10 #[.val (.int p1), .val (.int p2), .val (.int p3), .val (.int (p1 &&& (2147483647 : Int32))), .unset, .val (.int (p3 &&& (3 : Int32))), .unset, .unset, .unset, .unset, .unset, .unset] [])) _
    refine XS.iload X0.here hx rfl (hb hby at_10) rfl ?_
    show Steps p.tables e below (s₁.setTop (mkF m 12 #[.val (.int p1), .val (.int p2), .val (.int p3), .val (.int (p1 &&& (2147483647 : Int32))), .unset, .val (.int (p3 &&& (3 : Int32))), .unset, .unset, .unset, .unset, .unset, .unset] [(.int (p3 &&& (3 : Int32)))])) _
    refine st4 _ ?_
    show Steps p.tables e below (s₁.setTop (mkF m 47 #[.val (.int p1), .val (.int p2), .val (.int p3), .val (.int (p1 &&& (2147483647 : Int32))), .val (.int (f0_2 p1 p2 p3 s0_ALL s1_ANY)), .val (.int (p3 &&& (3 : Int32))), .unset, .unset, .unset, .unset, .unset, .unset] [])) _
    refine st5 _ ?_
    show Steps p.tables e below (T5.setTop (mkF m 50 #[.val (.int p1), .val (.int p2), .val (.int p3), .val (.int (p1 &&& (2147483647 : Int32))), .val (.int (f0_2 p1 p2 p3 s0_ALL s1_ANY)), .val (.int (p3 &&& (3 : Int32))), .unset, .unset, .unset, .unset, .unset, .unset] [(.ref s0_ALL)])) _
    refine XS.iload X5.here hx rfl (hb hby at_50) rfl ?_
    show Steps p.tables e below (T5.setTop (mkF m 52 #[.val (.int p1), .val (.int p2), .val (.int p3), .val (.int (p1 &&& (2147483647 : Int32))), .val (.int (f0_2 p1 p2 p3 s0_ALL s1_ANY)), .val (.int (p3 &&& (3 : Int32))), .unset, .unset, .unset, .unset, .unset, .unset] [(.int (f0_2 p1 p2 p3 s0_ALL s1_ANY)), (.ref s0_ALL)])) _
    refine XS.iloadN X5.here hx rfl (hb hby at_52) rfl ?_
    show Steps p.tables e below (T5.setTop (mkF m 53 #[.val (.int p1), .val (.int p2), .val (.int p3), .val (.int (p1 &&& (2147483647 : Int32))), .val (.int (f0_2 p1 p2 p3 s0_ALL s1_ANY)), .val (.int (p3 &&& (3 : Int32))), .unset, .unset, .unset, .unset, .unset, .unset] [(.int (p1 &&& (2147483647 : Int32))), (.int (f0_2 p1 p2 p3 s0_ALL s1_ANY)), (.ref s0_ALL)])) _
    refine st6.trans ?_
    show Steps p.tables e below (T6.setTop (mkF m 56 #[.val (.int p1), .val (.int p2), .val (.int p3), .val (.int (p1 &&& (2147483647 : Int32))), .val (.int (f0_2 p1 p2 p3 s0_ALL s1_ANY)), .val (.int (p3 &&& (3 : Int32))), .unset, .unset, .unset, .unset, .unset, .unset] [(.int ((f1_0 s0_ALL (f0_2 p1 p2 p3 s0_ALL s1_ANY) (p1 &&& (2147483647 : Int32)) s0_ALL) &&& 1))])) _
    refine XS.istore X6.here hx rfl (hb hby at_56) rfl (l' := #[.val (.int p1), .val (.int p2), .val (.int p3), .val (.int (p1 &&& (2147483647 : Int32))), .val (.int (f0_2 p1 p2 p3 s0_ALL s1_ANY)), .val (.int (p3 &&& (3 : Int32))), .val (.int ((f1_0 s0_ALL (f0_2 p1 p2 p3 s0_ALL s1_ANY) (p1 &&& (2147483647 : Int32)) s0_ALL) &&& 1)), .unset, .unset, .unset, .unset, .unset]) rfl ?_
    show Steps p.tables e below (T6.setTop (mkF m 58 #[.val (.int p1), .val (.int p2), .val (.int p3), .val (.int (p1 &&& (2147483647 : Int32))), .val (.int (f0_2 p1 p2 p3 s0_ALL s1_ANY)), .val (.int (p3 &&& (3 : Int32))), .val (.int ((f1_0 s0_ALL (f0_2 p1 p2 p3 s0_ALL s1_ANY) (p1 &&& (2147483647 : Int32)) s0_ALL) &&& 1)), .unset, .unset, .unset, .unset, .unset] [])) _
    refine st7 _ ?_
    show Steps p.tables e below (T7.setTop (mkF m 61 #[.val (.int p1), .val (.int p2), .val (.int p3), .val (.int (p1 &&& (2147483647 : Int32))), .val (.int (f0_2 p1 p2 p3 s0_ALL s1_ANY)), .val (.int (p3 &&& (3 : Int32))), .val (.int ((f1_0 s0_ALL (f0_2 p1 p2 p3 s0_ALL s1_ANY) (p1 &&& (2147483647 : Int32)) s0_ALL) &&& 1)), .unset, .unset, .unset, .unset, .unset] [(.ref s1_ANY)])) _
    refine XS.iload X7.here hx rfl (hb hby at_61) rfl ?_
    show Steps p.tables e below (T7.setTop (mkF m 63 #[.val (.int p1), .val (.int p2), .val (.int p3), .val (.int (p1 &&& (2147483647 : Int32))), .val (.int (f0_2 p1 p2 p3 s0_ALL s1_ANY)), .val (.int (p3 &&& (3 : Int32))), .val (.int ((f1_0 s0_ALL (f0_2 p1 p2 p3 s0_ALL s1_ANY) (p1 &&& (2147483647 : Int32)) s0_ALL) &&& 1)), .unset, .unset, .unset, .unset, .unset] [(.int (f0_2 p1 p2 p3 s0_ALL s1_ANY)), (.ref s1_ANY)])) _
    refine XS.iloadN X7.here hx rfl (hb hby at_63) rfl ?_
    show Steps p.tables e below (T7.setTop (mkF m 64 #[.val (.int p1), .val (.int p2), .val (.int p3), .val (.int (p1 &&& (2147483647 : Int32))), .val (.int (f0_2 p1 p2 p3 s0_ALL s1_ANY)), .val (.int (p3 &&& (3 : Int32))), .val (.int ((f1_0 s0_ALL (f0_2 p1 p2 p3 s0_ALL s1_ANY) (p1 &&& (2147483647 : Int32)) s0_ALL) &&& 1)), .unset, .unset, .unset, .unset, .unset] [(.int (p1 &&& (2147483647 : Int32))), (.int (f0_2 p1 p2 p3 s0_ALL s1_ANY)), (.ref s1_ANY)])) _
    refine st8.trans ?_
    show Steps p.tables e below (T8.setTop (mkF m 67 #[.val (.int p1), .val (.int p2), .val (.int p3), .val (.int (p1 &&& (2147483647 : Int32))), .val (.int (f0_2 p1 p2 p3 s0_ALL s1_ANY)), .val (.int (p3 &&& (3 : Int32))), .val (.int ((f1_0 s0_ALL (f0_2 p1 p2 p3 s0_ALL s1_ANY) (p1 &&& (2147483647 : Int32)) s0_ALL) &&& 1)), .unset, .unset, .unset, .unset, .unset] [(.int ((f1_0 s1_ANY (f0_2 p1 p2 p3 s0_ALL s1_ANY) (p1 &&& (2147483647 : Int32)) s0_ALL) &&& 1))])) _
    refine XS.istore X8.here hx rfl (hb hby at_67) rfl (l' := #[.val (.int p1), .val (.int p2), .val (.int p3), .val (.int (p1 &&& (2147483647 : Int32))), .val (.int (f0_2 p1 p2 p3 s0_ALL s1_ANY)), .val (.int (p3 &&& (3 : Int32))), .val (.int ((f1_0 s0_ALL (f0_2 p1 p2 p3 s0_ALL s1_ANY) (p1 &&& (2147483647 : Int32)) s0_ALL) &&& 1)), .val (.int ((f1_0 s1_ANY (f0_2 p1 p2 p3 s0_ALL s1_ANY) (p1 &&& (2147483647 : Int32)) s0_ALL) &&& 1)), .unset, .unset, .unset, .unset]) rfl ?_
    show Steps p.tables e below (T8.setTop (mkF m 69 #[.val (.int p1), .val (.int p2), .val (.int p3), .val (.int (p1 &&& (2147483647 : Int32))), .val (.int (f0_2 p1 p2 p3 s0_ALL s1_ANY)), .val (.int (p3 &&& (3 : Int32))), .val (.int ((f1_0 s0_ALL (f0_2 p1 p2 p3 s0_ALL s1_ANY) (p1 &&& (2147483647 : Int32)) s0_ALL) &&& 1)), .val (.int ((f1_0 s1_ANY (f0_2 p1 p2 p3 s0_ALL s1_ANY) (p1 &&& (2147483647 : Int32)) s0_ALL) &&& 1)), .unset, .unset, .unset, .unset] [])) _
    refine XS.iloadN X8.here hx rfl (hb hby at_69) rfl ?_
    show Steps p.tables e below (T8.setTop (mkF m 70 #[.val (.int p1), .val (.int p2), .val (.int p3), .val (.int (p1 &&& (2147483647 : Int32))), .val (.int (f0_2 p1 p2 p3 s0_ALL s1_ANY)), .val (.int (p3 &&& (3 : Int32))), .val (.int ((f1_0 s0_ALL (f0_2 p1 p2 p3 s0_ALL s1_ANY) (p1 &&& (2147483647 : Int32)) s0_ALL) &&& 1)), .val (.int ((f1_0 s1_ANY (f0_2 p1 p2 p3 s0_ALL s1_ANY) (p1 &&& (2147483647 : Int32)) s0_ALL) &&& 1)), .unset, .unset, .unset, .unset] [(.int (p1 &&& (2147483647 : Int32)))])) _
    refine XS.iload X8.here hx rfl (hb hby at_70) rfl ?_
    show Steps p.tables e below (T8.setTop (mkF m 72 #[.val (.int p1), .val (.int p2), .val (.int p3), .val (.int (p1 &&& (2147483647 : Int32))), .val (.int (f0_2 p1 p2 p3 s0_ALL s1_ANY)), .val (.int (p3 &&& (3 : Int32))), .val (.int ((f1_0 s0_ALL (f0_2 p1 p2 p3 s0_ALL s1_ANY) (p1 &&& (2147483647 : Int32)) s0_ALL) &&& 1)), .val (.int ((f1_0 s1_ANY (f0_2 p1 p2 p3 s0_ALL s1_ANY) (p1 &&& (2147483647 : Int32)) s0_ALL) &&& 1)), .unset, .unset, .unset, .unset] [(.int (f0_2 p1 p2 p3 s0_ALL s1_ANY)), (.int (p1 &&& (2147483647 : Int32)))])) _
    refine XS.isub X8.here hx rfl (hb hby at_72) rfl ?_
    show Steps p.tables e below (T8.setTop (mkF m 73 #[.val (.int p1), .val (.int p2), .val (.int p3), .val (.int (p1 &&& (2147483647 : Int32))), .val (.int (f0_2 p1 p2 p3 s0_ALL s1_ANY)), .val (.int (p3 &&& (3 : Int32))), .val (.int ((f1_0 s0_ALL (f0_2 p1 p2 p3 s0_ALL s1_ANY) (p1 &&& (2147483647 : Int32)) s0_ALL) &&& 1)), .val (.int ((f1_0 s1_ANY (f0_2 p1 p2 p3 s0_ALL s1_ANY) (p1 &&& (2147483647 : Int32)) s0_ALL) &&& 1)), .unset, .unset, .unset, .unset] [(.int (f0_3 p1 p2 p3 s0_ALL s1_ANY))])) _
    refine XS.istore X8.here hx rfl (hb hby at_73) rfl (l' := #[.val (.int p1), .val (.int p2), .val (.int p3), .val (.int (p1 &&& (2147483647 : Int32))), .val (.int (f0_2 p1 p2 p3 s0_ALL s1_ANY)), .val (.int (p3 &&& (3 : Int32))), .val (.int ((f1_0 s0_ALL (f0_2 p1 p2 p3 s0_ALL s1_ANY) (p1 &&& (2147483647 : Int32)) s0_ALL) &&& 1)), .val (.int ((f1_0 s1_ANY (f0_2 p1 p2 p3 s0_ALL s1_ANY) (p1 &&& (2147483647 : Int32)) s0_ALL) &&& 1)), .val (.int (f0_3 p1 p2 p3 s0_ALL s1_ANY)), .unset, .unset, .unset]) rfl ?_
    show Steps p.tables e below (T8.setTop (mkF m 75 #[.val (.int p1), .val (.int p2), .val (.int p3), .val (.int (p1 &&& (2147483647 : Int32))), .val (.int (f0_2 p1 p2 p3 s0_ALL s1_ANY)), .val (.int (p3 &&& (3 : Int32))), .val (.int ((f1_0 s0_ALL (f0_2 p1 p2 p3 s0_ALL s1_ANY) (p1 &&& (2147483647 : Int32)) s0_ALL) &&& 1)), .val (.int ((f1_0 s1_ANY (f0_2 p1 p2 p3 s0_ALL s1_ANY) (p1 &&& (2147483647 : Int32)) s0_ALL) &&& 1)), .val (.int (f0_3 p1 p2 p3 s0_ALL s1_ANY)), .unset, .unset, .unset] [])) _
    refine XS.iload X8.here hx rfl (hb hby at_75) rfl ?_
    show Steps p.tables e below (T8.setTop (mkF m 77 #[.val (.int p1), .val (.int p2), .val (.int p3), .val (.int (p1 &&& (2147483647 : Int32))), .val (.int (f0_2 p1 p2 p3 s0_ALL s1_ANY)), .val (.int (p3 &&& (3 : Int32))), .val (.int ((f1_0 s0_ALL (f0_2 p1 p2 p3 s0_ALL s1_ANY) (p1 &&& (2147483647 : Int32)) s0_ALL) &&& 1)), .val (.int ((f1_0 s1_ANY (f0_2 p1 p2 p3 s0_ALL s1_ANY) (p1 &&& (2147483647 : Int32)) s0_ALL) &&& 1)), .val (.int (f0_3 p1 p2 p3 s0_ALL s1_ANY)), .unset, .unset, .unset] [(.int (f0_3 p1 p2 p3 s0_ALL s1_ANY))])) _
    refine st10 _ ?_
    show Steps p.tables e below (T8.setTop (mkF m 85 #[.val (.int p1), .val (.int p2), .val (.int p3), .val (.int (p1 &&& (2147483647 : Int32))), .val (.int (f0_2 p1 p2 p3 s0_ALL s1_ANY)), .val (.int (p3 &&& (3 : Int32))), .val (.int ((f1_0 s0_ALL (f0_2 p1 p2 p3 s0_ALL s1_ANY) (p1 &&& (2147483647 : Int32)) s0_ALL) &&& 1)), .val (.int ((f1_0 s1_ANY (f0_2 p1 p2 p3 s0_ALL s1_ANY) (p1 &&& (2147483647 : Int32)) s0_ALL) &&& 1)), .val (.int (f0_3 p1 p2 p3 s0_ALL s1_ANY)), .unset, .unset, .unset] [(.int (f0_4 p1 p2 p3 s0_ALL s1_ANY))])) _
    refine XS.istore X8.here hx rfl (hb hby at_85) rfl (l' := #[.val (.int p1), .val (.int p2), .val (.int p3), .val (.int (p1 &&& (2147483647 : Int32))), .val (.int (f0_2 p1 p2 p3 s0_ALL s1_ANY)), .val (.int (p3 &&& (3 : Int32))), .val (.int ((f1_0 s0_ALL (f0_2 p1 p2 p3 s0_ALL s1_ANY) (p1 &&& (2147483647 : Int32)) s0_ALL) &&& 1)), .val (.int ((f1_0 s1_ANY (f0_2 p1 p2 p3 s0_ALL s1_ANY) (p1 &&& (2147483647 : Int32)) s0_ALL) &&& 1)), .val (.int (f0_3 p1 p2 p3 s0_ALL s1_ANY)), .val (.int (f0_4 p1 p2 p3 s0_ALL s1_ANY)), .unset, .unset]) rfl ?_
    show Steps p.tables e below (T8.setTop (mkF m 87 #[.val (.int p1), .val (.int p2), .val (.int p3), .val (.int (p1 &&& (2147483647 : Int32))), .val (.int (f0_2 p1 p2 p3 s0_ALL s1_ANY)), .val (.int (p3 &&& (3 : Int32))), .val (.int ((f1_0 s0_ALL (f0_2 p1 p2 p3 s0_ALL s1_ANY) (p1 &&& (2147483647 : Int32)) s0_ALL) &&& 1)), .val (.int ((f1_0 s1_ANY (f0_2 p1 p2 p3 s0_ALL s1_ANY) (p1 &&& (2147483647 : Int32)) s0_ALL) &&& 1)), .val (.int (f0_3 p1 p2 p3 s0_ALL s1_ANY)), .val (.int (f0_4 p1 p2 p3 s0_ALL s1_ANY)), .unset, .unset] [])) _
    refine XS.iload X8.here hx rfl (hb hby at_87) rfl ?_
    show Steps p.tables e below (T8.setTop (mkF m 89 #[.val (.int p1), .val (.int p2), .val (.int p3), .val (.int (p1 &&& (2147483647 : Int32))), .val (.int (f0_2 p1 p2 p3 s0_ALL s1_ANY)), .val (.int (p3 &&& (3 : Int32))), .val (.int ((f1_0 s0_ALL (f0_2 p1 p2 p3 s0_ALL s1_ANY) (p1 &&& (2147483647 : Int32)) s0_ALL) &&& 1)), .val (.int ((f1_0 s1_ANY (f0_2 p1 p2 p3 s0_ALL s1_ANY) (p1 &&& (2147483647 : Int32)) s0_ALL) &&& 1)), .val (.int (f0_3 p1 p2 p3 s0_ALL s1_ANY)), .val (.int (f0_4 p1 p2 p3 s0_ALL s1_ANY)), .unset, .unset] [(.int (f0_2 p1 p2 p3 s0_ALL s1_ANY))])) _
    refine XS.iconst X8.here hx rfl (hb hby at_89) ?_
    show Steps p.tables e below (T8.setTop (mkF m 90 #[.val (.int p1), .val (.int p2), .val (.int p3), .val (.int (p1 &&& (2147483647 : Int32))), .val (.int (f0_2 p1 p2 p3 s0_ALL s1_ANY)), .val (.int (p3 &&& (3 : Int32))), .val (.int ((f1_0 s0_ALL (f0_2 p1 p2 p3 s0_ALL s1_ANY) (p1 &&& (2147483647 : Int32)) s0_ALL) &&& 1)), .val (.int ((f1_0 s1_ANY (f0_2 p1 p2 p3 s0_ALL s1_ANY) (p1 &&& (2147483647 : Int32)) s0_ALL) &&& 1)), .val (.int (f0_3 p1 p2 p3 s0_ALL s1_ANY)), .val (.int (f0_4 p1 p2 p3 s0_ALL s1_ANY)), .unset, .unset] [(.int (1 : Int32)), (.int (f0_2 p1 p2 p3 s0_ALL s1_ANY))])) _
    refine st12 _ ?_
    show Steps p.tables e below (T8.setTop (mkF m 98 #[.val (.int p1), .val (.int p2), .val (.int p3), .val (.int (p1 &&& (2147483647 : Int32))), .val (.int (f0_2 p1 p2 p3 s0_ALL s1_ANY)), .val (.int (p3 &&& (3 : Int32))), .val (.int ((f1_0 s0_ALL (f0_2 p1 p2 p3 s0_ALL s1_ANY) (p1 &&& (2147483647 : Int32)) s0_ALL) &&& 1)), .val (.int ((f1_0 s1_ANY (f0_2 p1 p2 p3 s0_ALL s1_ANY) (p1 &&& (2147483647 : Int32)) s0_ALL) &&& 1)), .val (.int (f0_3 p1 p2 p3 s0_ALL s1_ANY)), .val (.int (f0_4 p1 p2 p3 s0_ALL s1_ANY)), .unset, .unset] [(.int (f0_5 p1 p2 p3 s0_ALL s1_ANY))])) _
    refine XS.istore X8.here hx rfl (hb hby at_98) rfl (l' := #[.val (.int p1), .val (.int p2), .val (.int p3), .val (.int (p1 &&& (2147483647 : Int32))), .val (.int (f0_2 p1 p2 p3 s0_ALL s1_ANY)), .val (.int (p3 &&& (3 : Int32))), .val (.int ((f1_0 s0_ALL (f0_2 p1 p2 p3 s0_ALL s1_ANY) (p1 &&& (2147483647 : Int32)) s0_ALL) &&& 1)), .val (.int ((f1_0 s1_ANY (f0_2 p1 p2 p3 s0_ALL s1_ANY) (p1 &&& (2147483647 : Int32)) s0_ALL) &&& 1)), .val (.int (f0_3 p1 p2 p3 s0_ALL s1_ANY)), .val (.int (f0_4 p1 p2 p3 s0_ALL s1_ANY)), .val (.int (f0_5 p1 p2 p3 s0_ALL s1_ANY)), .unset]) rfl ?_
    show Steps p.tables e below (T8.setTop (mkF m 100 #[.val (.int p1), .val (.int p2), .val (.int p3), .val (.int (p1 &&& (2147483647 : Int32))), .val (.int (f0_2 p1 p2 p3 s0_ALL s1_ANY)), .val (.int (p3 &&& (3 : Int32))), .val (.int ((f1_0 s0_ALL (f0_2 p1 p2 p3 s0_ALL s1_ANY) (p1 &&& (2147483647 : Int32)) s0_ALL) &&& 1)), .val (.int ((f1_0 s1_ANY (f0_2 p1 p2 p3 s0_ALL s1_ANY) (p1 &&& (2147483647 : Int32)) s0_ALL) &&& 1)), .val (.int (f0_3 p1 p2 p3 s0_ALL s1_ANY)), .val (.int (f0_4 p1 p2 p3 s0_ALL s1_ANY)), .val (.int (f0_5 p1 p2 p3 s0_ALL s1_ANY)), .unset] [])) _
    refine XS.iloadN X8.here hx rfl (hb hby at_100) rfl ?_
    show Steps p.tables e below (T8.setTop (mkF m 101 #[.val (.int p1), .val (.int p2), .val (.int p3), .val (.int (p1 &&& (2147483647 : Int32))), .val (.int (f0_2 p1 p2 p3 s0_ALL s1_ANY)), .val (.int (p3 &&& (3 : Int32))), .val (.int ((f1_0 s0_ALL (f0_2 p1 p2 p3 s0_ALL s1_ANY) (p1 &&& (2147483647 : Int32)) s0_ALL) &&& 1)), .val (.int ((f1_0 s1_ANY (f0_2 p1 p2 p3 s0_ALL s1_ANY) (p1 &&& (2147483647 : Int32)) s0_ALL) &&& 1)), .val (.int (f0_3 p1 p2 p3 s0_ALL s1_ANY)), .val (.int (f0_4 p1 p2 p3 s0_ALL s1_ANY)), .val (.int (f0_5 p1 p2 p3 s0_ALL s1_ANY)), .unset] [(.int (p1 &&& (2147483647 : Int32)))])) _
    refine st18 _ ?_
    show Steps p.tables e below (T8.setTop (mkF m 119 #[.val (.int p1), .val (.int p2), .val (.int p3), .val (.int (p1 &&& (2147483647 : Int32))), .val (.int (f0_2 p1 p2 p3 s0_ALL s1_ANY)), .val (.int (p3 &&& (3 : Int32))), .val (.int ((f1_0 s0_ALL (f0_2 p1 p2 p3 s0_ALL s1_ANY) (p1 &&& (2147483647 : Int32)) s0_ALL) &&& 1)), .val (.int ((f1_0 s1_ANY (f0_2 p1 p2 p3 s0_ALL s1_ANY) (p1 &&& (2147483647 : Int32)) s0_ALL) &&& 1)), .val (.int (f0_3 p1 p2 p3 s0_ALL s1_ANY)), .val (.int (f0_4 p1 p2 p3 s0_ALL s1_ANY)), .val (.int (f0_5 p1 p2 p3 s0_ALL s1_ANY)), .unset] [(.int (f0_8 p1 p2 p3 s0_ALL s1_ANY))])) _
    refine XS.istore X8.here hx rfl (hb hby at_119) rfl (l' := #[.val (.int p1), .val (.int p2), .val (.int p3), .val (.int (p1 &&& (2147483647 : Int32))), .val (.int (f0_2 p1 p2 p3 s0_ALL s1_ANY)), .val (.int (p3 &&& (3 : Int32))), .val (.int ((f1_0 s0_ALL (f0_2 p1 p2 p3 s0_ALL s1_ANY) (p1 &&& (2147483647 : Int32)) s0_ALL) &&& 1)), .val (.int ((f1_0 s1_ANY (f0_2 p1 p2 p3 s0_ALL s1_ANY) (p1 &&& (2147483647 : Int32)) s0_ALL) &&& 1)), .val (.int (f0_3 p1 p2 p3 s0_ALL s1_ANY)), .val (.int (f0_4 p1 p2 p3 s0_ALL s1_ANY)), .val (.int (f0_5 p1 p2 p3 s0_ALL s1_ANY)), .val (.int (f0_8 p1 p2 p3 s0_ALL s1_ANY))]) rfl ?_
    show Steps p.tables e below (T8.setTop (mkF m 121 #[.val (.int p1), .val (.int p2), .val (.int p3), .val (.int (p1 &&& (2147483647 : Int32))), .val (.int (f0_2 p1 p2 p3 s0_ALL s1_ANY)), .val (.int (p3 &&& (3 : Int32))), .val (.int ((f1_0 s0_ALL (f0_2 p1 p2 p3 s0_ALL s1_ANY) (p1 &&& (2147483647 : Int32)) s0_ALL) &&& 1)), .val (.int ((f1_0 s1_ANY (f0_2 p1 p2 p3 s0_ALL s1_ANY) (p1 &&& (2147483647 : Int32)) s0_ALL) &&& 1)), .val (.int (f0_3 p1 p2 p3 s0_ALL s1_ANY)), .val (.int (f0_4 p1 p2 p3 s0_ALL s1_ANY)), .val (.int (f0_5 p1 p2 p3 s0_ALL s1_ANY)), .val (.int (f0_8 p1 p2 p3 s0_ALL s1_ANY))] [])) _
    refine XS.iload X8.here hx rfl (hb hby at_121) rfl ?_
    show Steps p.tables e below (T8.setTop (mkF m 123 #[.val (.int p1), .val (.int p2), .val (.int p3), .val (.int (p1 &&& (2147483647 : Int32))), .val (.int (f0_2 p1 p2 p3 s0_ALL s1_ANY)), .val (.int (p3 &&& (3 : Int32))), .val (.int ((f1_0 s0_ALL (f0_2 p1 p2 p3 s0_ALL s1_ANY) (p1 &&& (2147483647 : Int32)) s0_ALL) &&& 1)), .val (.int ((f1_0 s1_ANY (f0_2 p1 p2 p3 s0_ALL s1_ANY) (p1 &&& (2147483647 : Int32)) s0_ALL) &&& 1)), .val (.int (f0_3 p1 p2 p3 s0_ALL s1_ANY)), .val (.int (f0_4 p1 p2 p3 s0_ALL s1_ANY)), .val (.int (f0_5 p1 p2 p3 s0_ALL s1_ANY)), .val (.int (f0_8 p1 p2 p3 s0_ALL s1_ANY))] [(.int ((f1_0 s0_ALL (f0_2 p1 p2 p3 s0_ALL s1_ANY) (p1 &&& (2147483647 : Int32)) s0_ALL) &&& 1))])) _
    refine XS.iload X8.here hx rfl (hb hby at_123) rfl ?_
    show Steps p.tables e below (T8.setTop (mkF m 125 #[.val (.int p1), .val (.int p2), .val (.int p3), .val (.int (p1 &&& (2147483647 : Int32))), .val (.int (f0_2 p1 p2 p3 s0_ALL s1_ANY)), .val (.int (p3 &&& (3 : Int32))), .val (.int ((f1_0 s0_ALL (f0_2 p1 p2 p3 s0_ALL s1_ANY) (p1 &&& (2147483647 : Int32)) s0_ALL) &&& 1)), .val (.int ((f1_0 s1_ANY (f0_2 p1 p2 p3 s0_ALL s1_ANY) (p1 &&& (2147483647 : Int32)) s0_ALL) &&& 1)), .val (.int (f0_3 p1 p2 p3 s0_ALL s1_ANY)), .val (.int (f0_4 p1 p2 p3 s0_ALL s1_ANY)), .val (.int (f0_5 p1 p2 p3 s0_ALL s1_ANY)), .val (.int (f0_8 p1 p2 p3 s0_ALL s1_ANY))] [(.int (f0_4 p1 p2 p3 s0_ALL s1_ANY)), (.int ((f1_0 s0_ALL (f0_2 p1 p2 p3 s0_ALL s1_ANY) (p1 &&& (2147483647 : Int32)) s0_ALL) &&& 1))])) _
    refine st24 _ ?_
    show Steps p.tables e below (T8.setTop (mkF m 145 #[.val (.int p1), .val (.int p2), .val (.int p3), .val (.int (p1 &&& (2147483647 : Int32))), .val (.int (f0_2 p1 p2 p3 s0_ALL s1_ANY)), .val (.int (p3 &&& (3 : Int32))), .val (.int ((f1_0 s0_ALL (f0_2 p1 p2 p3 s0_ALL s1_ANY) (p1 &&& (2147483647 : Int32)) s0_ALL) &&& 1)), .val (.int ((f1_0 s1_ANY (f0_2 p1 p2 p3 s0_ALL s1_ANY) (p1 &&& (2147483647 : Int32)) s0_ALL) &&& 1)), .val (.int (f0_3 p1 p2 p3 s0_ALL s1_ANY)), .val (.int (f0_4 p1 p2 p3 s0_ALL s1_ANY)), .val (.int (f0_5 p1 p2 p3 s0_ALL s1_ANY)), .val (.int (f0_8 p1 p2 p3 s0_ALL s1_ANY))] [(.int (f0_11 p1 p2 p3 s0_ALL s1_ANY))])) _
    exact retN X8 hx (t := .boolean) Bd.returns (by simp) (hb hby at_145) hr
  · show Q0 Z p1 p2 p3 s0_ALL s1_ANY h0 n0 _ T8.heap _
    rw [e8]
    exact ⟨congrArg (fun z => some (Value.int z)) ((show f0 p1 p2 p3 s0_ALL s1_ANY = ((f0_11 p1 p2 p3 s0_ALL s1_ANY) &&& 1) from by rfl).symm.trans (own_law p1 p2 p3 s0_ALL s1_ANY (Ne.symm NE_s1_ANY_s0_ALL))), N8⟩
set_option maxRecDepth 65536 in
set_option maxHeartbeats 40000000 in
theorem comes_1 {Post : Tables → Env → Array Value → State → Outcome → State → Prop} (hpost : ∀ tb e args s v u, (limb_1_1.after args s (.returned v) u = true ∧ limb_1_2.after args s (.returned v) u = true ∧ True) → FrameEnd s (.returned v) u (Jvm.fieldLocs frame_1_writes args s ++ Jvm.arrayLocs frame_1_arrays args s ++ Jvm.staticLocs frame_1_statics s) 0 0 → Post tb e args s (.returned v) u) :
    ArmFor flags0 classFile x code maxLocals ret World_1 tables_1 room_1 Calls_1 rest_1 Pre_1 Post := by
  intro l hfl _ _ p e ha hc hk s m args below hf hA hF happ hP
  obtain ⟨hcalls, hrest, hpre⟩ := hP
  obtain ⟨-, -, -, hnamed, -, -, -, hat⟩ := (Spec.applies_iff hf).mp happ
  obtain ⟨hg, hn⟩ := and_e (Cond.before_iff.mp (show (Jvm.Cond.and given_1 narrow_1).before args s = true from hpre))
  obtain ⟨hcnt, hg0⟩ := and_e hg
  obtain ⟨hi0, hg1⟩ := and_e hg0
  obtain ⟨hi1, hg2⟩ := and_e hg1
  obtain ⟨w0, w1, w2, rfl⟩ : ∃ w0 w1 w2 : Value, args = #[w0, w1, w2] := by
    have hs : args.size = 3 := by simpa [Cond.value, given_1] using hcnt
    obtain ⟨L⟩ := args
    match L, hs with
    | [w0, w1, w2], _ => exact ⟨w0, w1, w2, rfl⟩
  have hw := fun d (hd : d ∈ tables_1) => atoms_spec (ws := Jvm.Cond.code x code maxLocals ret :: tables_1) hat d (List.mem_cons_of_mem _ hd)
  have hfit : Fit s := fun {y c} hc i hi => by
    obtain ⟨ha, rfl⟩ := Array.getElem?_eq_some_iff.mp hc
    have q := List.all_eq_true.mp ((Array.all_eq_true_iff_forall_mem.mp hF) _ (Array.getElem_mem ha)) i (List.mem_range.mpr hi)
    simpa [Array.getElem?_eq_getElem hi] using q
  obtain ⟨i0, ei0⟩ := is_v hi0
  obtain rfl : w0 = (.int i0) := Option.some.inj ei0
  obtain ⟨i1, ei1⟩ := is_v hi1
  obtain rfl : w1 = (.int i1) := Option.some.inj ei1
  obtain ⟨i2, ei2⟩ := is_v hg2
  obtain rfl : w2 = (.int i2) := Option.some.inj ei2
  obtain ⟨hc0, hn1⟩ := and_e hn
  obtain ⟨hc1, hn2⟩ := and_e hn1
  obtain ⟨hc2, hn3⟩ := and_e hn2
  have hc3 := hn3
  obtain ⟨s0_ALL, ex0⟩ := exa_v hc0
  have S0 := Sta.start ex0 (Or.inr ⟨(hw _ (List.mem_of_getElem? (i := 3) rfl)), (hw _ (List.mem_of_getElem? (i := 4) rfl))⟩)
  have E0 := Exa.start ex0 hc0
  obtain ⟨s1_ANY, ex1⟩ := exa_v hc1
  have S1 := Sta.start ex1 (Or.inr ⟨(hw _ (List.mem_of_getElem? (i := 3) rfl)), (hw _ (List.mem_of_getElem? (i := 12) rfl))⟩)
  have E1 := Exa.start ex1 hc1
  have f2 := own_fint ex1 hc2
  have F2 := Fld.start f2
  have f3 := own_fint ex0 hc3
  have F3 := Fld.start f3
  have ne2_3 := own_fne f2 f3 (by decide)
  obtain ⟨n, o, h1, h2, h3, _, L, rfl, ⟨rfl, N⟩, hq⟩ := rm0 l s _ hw tables_1 i0 i1 i2 s0_ALL s1_ANY s.heap s.heap.size (Nat.le_refl _) S0 E0 S1 E1 F2 F3 ne2_3 p e ha hc hk s m _ below hf ((Spec.applies_iff_loose hf).mp happ).1 ⟨rfl, State.Warmed39.refl s, rfl⟩ trivial
  refine ⟨n, _, h1, h2, h3, hpost _ _ _ _ _ _ ⟨Cond.after_iff.mpr rfl, Cond.after_iff.mpr (eq_i res_at (Term.int_eval (1)) rfl), trivial⟩ ⟨hq.1, hq.2.1, (hq.2.2.sift fun y hy => Or.inr (N y hy)).mono (by decide) (by decide)⟩⟩
theorem main_1_1 : Claimed_1_1 := comes_1 fun _ _ _ _ _ _ h hF => ⟨h.1, hF⟩
theorem main_1_2 : Claimed_1_2 := comes_1 fun _ _ _ _ _ _ h hF => ⟨h.2.1, hF⟩
end Jvm.Pilot.@@N@@
namespace Jvm.Pilot.@@N@@
open Jvm Jvm.ClassFile Sem Op Lib Jvm.Free Jvm.Stand Jvm.Pilot.@@N@@.Jvm.D
/-! MADE BY PROGRAM (witnessworld.py) out of the Statement's table words and the real class files: 12 classes; the members and pool entries that the words name. The judged class is class 1, her method 1. -/
namespace start1
open Jvm.ClassFile
def u (s : String) : CpInfo := .utf8 (stringToUtf16 s)
/-- a pool by its gaps: so many unusable entries, then the entry; so many at the end -/
def gap : Nat → List CpInfo → List CpInfo
  | 0, r => r
  | n + 1, r => .unusable :: gap n r
def poolList (es : List (Nat × CpInfo)) (last : Nat) : List CpInfo := es.foldr (fun e r => gap e.1 (e.2 :: r)) (gap last [])
def pool (es : List (Nat × CpInfo)) (last : Nat) : Array CpInfo := ⟨poolList es last⟩
def fileOf (pool : Array CpInfo) (this : Nat) (attrs : Array Attribute := #[]) (ms : Array MethodInfo := #[]) (fl : Nat := 33) (sup : Nat := 0) (ifs : Array Nat := #[]) (fds : Array FieldInfo := #[]) : ClassFile where
  minorVersion := 0
  majorVersion := 65
  constantPool := pool
  accessFlags := fl
  thisClass := this
  superClass := sup
  interfaces := ifs
  fields := fds
  methods := ms
  attributes := attrs
def plain (name : String) (sup : Option ClassId) : Class where
  name := name
  kind := .ordinary
  loader := none
  accessFlags := 33
  super := sup
  interfaces := #[]
  cf := none
  fields := #[]
  methods := #[]
  instanceTypes := #[]
  staticTypes := #[]
  resolved := #[]
  callSites := []
  init := .initialized
  statics := none
  mirror := none

def pool0 : Array CpInfo := pool [(5, u "<init>"), (0, u "()V"), (1, .class_ 10), (1, u "java/lang/Object")] 113

def k0m0 : Method := { name := "<init>", desc := "()V", sig := { parameters := [], returnType := none }, accessFlags := 1, code := none }
/-- java/lang/Object -/
def k0 : Class := { plain "java/lang/Object" none with
  accessFlags := 33
  interfaces := #[]
  cf := some (fileOf pool0 8 #[] #[{ accessFlags := 1, nameIndex := 5, descriptorIndex := 6, attributes := #[] }] 33 0 #[] #[])
  fields := #[]
  methods := #[k0m0]
  instanceTypes := #[]
  staticTypes := #[]
  resolved := Array.replicate 124 none
  statics := none }

def pool1 : Array CpInfo := pool [(2, .class_ 4), (1, u "java/lang/Object"), (0, u "<init>"), (0, u "()V"), (0, .integer 2147483647), (0, .long 2147483647), (1, .fieldref 11 12), (0, .class_ 13), (0, .nameAndType 14 15), (0, u "com/example/keyprint/keyprint/SignerPolicy"), (0, u "ALL"), (0, u "Lcom/example/keyprint/keyprint/SignerPolicy;"), (0, .methodref 11 17), (0, .nameAndType 18 19), (0, u "isMetBy"), (0, u "(II)Z"), (0, .fieldref 11 21), (0, .nameAndType 22 15), (0, u "ANY"), (0, .class_ 24), (0, u "com/example/keyprint/keyprint/SignerPolicyIsMetByPinLaw"), (2, u "law"), (0, u "(III)Z")] 3

def k1m0 : Method := { name := "<init>", desc := "()V", sig := { parameters := [], returnType := none }, accessFlags := 1, code := none }
def k1c1 : Code := { maxStack := 6, maxLocals := 12, code := code, exceptionTable := #[], attributes := #[] }
def k1m1 : Method := { name := "law", desc := "(III)Z", sig := { parameters := [.int, .int, .int], returnType := some .boolean }, accessFlags := 9, code := some k1c1 }
/-- com/example/keyprint/keyprint/SignerPolicyIsMetByPinLaw -/
def k1 : Class := { plain "com/example/keyprint/keyprint/SignerPolicyIsMetByPinLaw" (some 0) with
  accessFlags := 49
  interfaces := #[]
  cf := some (fileOf pool1 23 #[] #[{ accessFlags := 1, nameIndex := 5, descriptorIndex := 6, attributes := #[] }, { accessFlags := 9, nameIndex := 27, descriptorIndex := 28, attributes := #[] }] 49 2 #[] #[])
  fields := #[]
  methods := #[k1m0, k1m1]
  instanceTypes := #[]
  staticTypes := #[]
  resolved := Array.replicate 32 none
  statics := none }

def pool2 : Array CpInfo := pool [(1, .class_ 2), (0, u "java/lang/constant/Constable"), (0, .class_ 4), (0, u "java/lang/Object")] 6

/-- java/lang/constant/Constable -/
def k2 : Class := { plain "java/lang/constant/Constable" (some 0) with
  accessFlags := 1537
  interfaces := #[]
  cf := some (fileOf pool2 1 #[] #[] 1537 3 #[] #[])
  fields := #[]
  methods := #[]
  instanceTypes := #[]
  staticTypes := #[]
  resolved := Array.replicate 11 none
  statics := none }

def pool3 : Array CpInfo := pool [(1, .class_ 2), (0, u "java/lang/Comparable"), (0, .class_ 4), (0, u "java/lang/Object")] 7

/-- java/lang/Comparable -/
def k3 : Class := { plain "java/lang/Comparable" (some 0) with
  accessFlags := 1537
  interfaces := #[]
  cf := some (fileOf pool3 1 #[] #[] 1537 3 #[] #[])
  fields := #[]
  methods := #[]
  instanceTypes := #[]
  staticTypes := #[]
  resolved := Array.replicate 12 none
  statics := none }

def pool4 : Array CpInfo := pool [(1, .class_ 2), (0, u "java/io/Serializable"), (0, .class_ 4), (0, u "java/lang/Object")] 2

/-- java/io/Serializable -/
def k4 : Class := { plain "java/io/Serializable" (some 0) with
  accessFlags := 1537
  interfaces := #[]
  cf := some (fileOf pool4 1 #[] #[] 1537 3 #[] #[])
  fields := #[]
  methods := #[]
  instanceTypes := #[]
  staticTypes := #[]
  resolved := Array.replicate 7 none
  statics := none }

def pool5 : Array CpInfo := pool [(2, .class_ 4), (1, u "java/lang/Enum"), (0, u "name"), (0, u "Ljava/lang/String;"), (2, u "ordinal"), (0, u "I"), (1, .class_ 14), (1, u "java/lang/Object"), (4, u "hash"), (86, .class_ 108), (1, u "java/lang/Enum$EnumDesc"), (2, .class_ 112), (0, u "java/lang/constant/Constable"), (0, .class_ 114), (0, u "java/lang/Comparable"), (0, .class_ 116), (0, u "java/io/Serializable")] 87

/-- java/lang/Enum -/
def k5 : Class := { plain "java/lang/Enum" (some 0) with
  accessFlags := 1057
  interfaces := #[2, 3, 4]
  cf := some (fileOf pool5 2 #[.nestMembers #[106]] #[] 1057 12 #[111, 113, 115] #[{ accessFlags := 18, nameIndex := 5, descriptorIndex := 6, attributes := #[] }, { accessFlags := 18, nameIndex := 9, descriptorIndex := 10, attributes := #[] }, { accessFlags := 2, nameIndex := 19, descriptorIndex := 10, attributes := #[] }])
  fields := #[{ name := "name", type := (.object "java/lang/String"), accessFlags := 18, slot := 0, constantValue := 0 }, { name := "ordinal", type := .int, accessFlags := 18, slot := 1, constantValue := 0 }, { name := "hash", type := .int, accessFlags := 2, slot := 2, constantValue := 0 }]
  methods := #[]
  instanceTypes := #[(.object "java/lang/String"), .int, .int]
  staticTypes := #[]
  resolved := Array.replicate 204 none
  statics := none }

def pool6 : Array CpInfo := pool [(1, .class_ 2), (0, u "com/example/keyprint/keyprint/SignerPolicy"), (0, .fieldref 1 4), (0, .nameAndType 5 6), (0, u "ALL"), (0, u "Lcom/example/keyprint/keyprint/SignerPolicy;"), (2, u "ANY"), (2, u "$VALUES"), (0, u "[Lcom/example/keyprint/keyprint/SignerPolicy;"), (6, .class_ 22), (1, u "java/lang/Enum"), (20, u "isMetBy"), (0, u "(II)Z")] 5

def k6c0 : Code := { maxStack := 2, maxLocals := 3, code := prog_32_method_4_code, exceptionTable := #[], attributes := #[] }
def k6m0 : Method := { name := "isMetBy", desc := "(II)Z", sig := { parameters := [.int, .int], returnType := some .boolean }, accessFlags := 0, code := some k6c0 }
/-- com/example/keyprint/keyprint/SignerPolicy -/
def k6 : Class := { plain "com/example/keyprint/keyprint/SignerPolicy" (some 5) with
  accessFlags := 16433
  interfaces := #[]
  cf := some (fileOf pool6 1 #[] #[{ accessFlags := 0, nameIndex := 43, descriptorIndex := 44, attributes := #[] }] 16433 20 #[] #[{ accessFlags := 16409, nameIndex := 5, descriptorIndex := 6, attributes := #[] }, { accessFlags := 16409, nameIndex := 9, descriptorIndex := 6, attributes := #[] }, { accessFlags := 4122, nameIndex := 12, descriptorIndex := 13, attributes := #[] }])
  fields := #[{ name := "ALL", type := (.object "com/example/keyprint/keyprint/SignerPolicy"), accessFlags := 16409, slot := 0, constantValue := 0 }, { name := "ANY", type := (.object "com/example/keyprint/keyprint/SignerPolicy"), accessFlags := 16409, slot := 1, constantValue := 0 }, { name := "$VALUES", type := (.array (.object "com/example/keyprint/keyprint/SignerPolicy")), accessFlags := 4122, slot := 2, constantValue := 0 }]
  methods := #[k6m0]
  instanceTypes := #[(.object "java/lang/String"), .int, .int]
  staticTypes := #[(.object "com/example/keyprint/keyprint/SignerPolicy"), (.object "com/example/keyprint/keyprint/SignerPolicy"), (.array (.object "com/example/keyprint/keyprint/SignerPolicy"))]
  resolved := Array.replicate 50 none
  statics := some 0 }

def pool7 : Array CpInfo := pool [(1, u "java/lang/Cloneable"), (0, .class_ 1), (0, u "java/lang/Object"), (0, .class_ 3)] 3

/-- java/lang/Cloneable -/
def k7 : Class := { plain "java/lang/Cloneable" (some 0) with
  accessFlags := 1537
  interfaces := #[]
  cf := some (fileOf pool7 2 #[] #[] 1537 4 #[] #[])
  fields := #[]
  methods := #[]
  instanceTypes := #[]
  staticTypes := #[]
  resolved := Array.replicate 8 none
  statics := none }

/-- the primitive byte -/
def k8 : Class := { plain "byte" none with kind := .primitive 'B', accessFlags := 0x411 }
/-- [B -/
def k9 : Class := { plain "[B" (some 0) with kind := .array 8 .byte, interfaces := #[7, 4], accessFlags := 1041 }

/-- the primitive int -/
def k10 : Class := { plain "int" none with kind := .primitive 'I', accessFlags := 0x411 }
/-- [I -/
def k11 : Class := { plain "[I" (some 0) with kind := .array 10 .int, interfaces := #[7, 4], accessFlags := 1041 }

def heap : Heap := #[{ cls := 6, slots := #[.ref 1, .ref 2, .null], vm := .statics 6 },
  { cls := 6, slots := #[.null, .int 0, .int 0], vm := .none },
  { cls := 6, slots := #[.null, .int 1, .int 0], vm := .none }]
def classes : Array Class := #[k0, k1, k2, k3, k4, k5, k6, k7, k8, k9, k10, k11]
def interned : List (Array UInt16 × Addr) := []
def slotsUsed : Nat := 9
def theMethod : MethodId := ⟨1, 1⟩
def args0 : Array Value := #[.int 7, .int 3, .int 2]
def aboutOver (below : List Frame) : State where
  vm := { classes := classes, interned := interned.toArray }
  heap := heap
  slotsUsed := slotsUsed
  threads := #[{ frames := .invoking theMethod args0 :: below }]
def below0 : List Frame := [.native { method := ⟨0, 0⟩, args := #[] }]
def about1 : State := aboutOver below0
def p0 : Program := .bare "" "" ""
def e0 : Env := launch0.env 0 0 0
theorem w_frames : about1.frames = Frame.invoking theMethod args0 :: below0 := rfl
set_option maxRecDepth 65536 in
theorem w_args : argsFit about1.vm theMethod args0 = true := by decide +kernel
set_option maxRecDepth 65536 in
theorem w_heap : heapFits about1 = true := by decide +kernel
set_option maxRecDepth 65536 in
theorem w_runnable : about1.curStatus? = some .runnable := by decide +kernel
set_option maxRecDepth 65536 in
theorem w_alone : about1.alone = true := by decide +kernel
set_option maxRecDepth 65536 in
theorem w_named : about1.methodNamed? x = some theMethod := by decide +kernel
set_option maxRecDepth 65536 in
theorem w_hears : about1.hears theMethod below0 = true := by decide +kernel
set_option maxRecDepth 65536 in
theorem w_ripe : about1.ripe theMethod args0 below0 = true := by decide +kernel
theorem w_running : about1.status = .running := rfl
set_option maxRecDepth 65536 in
theorem w_room : about1.hasRoom e0.platform room_1 = true :=
  launch0.hasRoom_least _ room_1 (by decide +kernel) (by decide +kernel) (by decide +kernel) (by decide +kernel) (by decide +kernel) (by decide +kernel)
theorem allAtoms_all (ts : List Jvm.Cond) (a : Array Jvm.Value) (st : Jvm.State) : (allAtoms ts).before a st = ts.all (fun c => c.before a st) := by
  induction ts with
  | nil => rfl
  | cons c t ih =>
    show (Jvm.Cond.and c (allAtoms t)).before a st = _
    rw [Jvm.Cond.before_and, ih, List.all_cons]
def words1 : List Jvm.Cond := Jvm.Cond.code x code maxLocals ret :: tables_1
/-- a 'code' word, met by the world's own term for the bytes: nothing is compared byte by byte -/
theorem code_word {y : MethodName} {bytes : ByteArray} {mx : Nat} {rt : Option FieldType} {a : Array Value} {s : State} {m : MethodId} {meth : Method} {c : Code} (h1 : s.methodNamed? y = some m) (h2 : s.vm.method? m = some meth) (h3 : meth.code = some c) (h4 : c.code = bytes)
    (h5 : (c.maxLocals == mx && c.exceptionTable.isEmpty && decide (c.maxStack ≤ mostOperands) && decide (meth.sig.returnType = rt) && !meth.locks && decide (parseMethodDescriptor y.desc = some meth.sig)) = true) : (Jvm.Cond.code y bytes mx rt).before a s = true := by
  simp only [Bool.and_eq_true, beq_iff_eq, Bool.not_eq_true', decide_eq_true_eq] at h5
  obtain ⟨⟨⟨⟨⟨g1, g2⟩, g3⟩, g4⟩, g5⟩, g6⟩ := h5
  simp [Cond.before, Cond.holds, Cond.value, h1, h2, h3, h4, g1, g2, g3, g4, g5, g6]
def isCode : Jvm.Cond → Bool
  | .code _ _ _ _ => true
  | _ => false
theorem all_split {L : List Jvm.Cond} {P : Jvm.Cond → Bool} (h1 : L.all (fun c => isCode c || P c) = true) (h2 : ∀ c ∈ L.filter isCode, P c = true) : L.all P = true := by
  refine List.all_eq_true.mpr fun c hc => ?_
  have h := List.all_eq_true.mp h1 c hc
  rcases Bool.eq_false_or_eq_true (isCode c) with hi | hi
  · exact h2 c (List.mem_filter.mpr ⟨hc, hi⟩)
  · simpa [hi] using h
set_option maxRecDepth 65536 in
theorem w_c0 : (Jvm.Cond.code x code maxLocals ret).before args0 about1 = true := code_word (m := ⟨1, 1⟩) (meth := k1m1) (c := k1c1) (by decide +kernel) rfl rfl rfl (by decide +kernel)
set_option maxRecDepth 65536 in
theorem w_c1 : (Jvm.Cond.code ({ cls := "com/example/keyprint/keyprint/SignerPolicy", name := "isMetBy", desc := "(II)Z" } : Jvm.MethodName) prog_32_method_4_code (3 : Nat) (Option.some Jvm.ClassFile.FieldType.boolean)).before args0 about1 = true := code_word (m := ⟨6, 0⟩) (meth := k6m0) (c := k6c0) (by decide +kernel) rfl rfl rfl (by decide +kernel)
def codes1 : List Jvm.Cond := [Jvm.Cond.code x code maxLocals ret, Jvm.Cond.code ({ cls := "com/example/keyprint/keyprint/SignerPolicy", name := "isMetBy", desc := "(II)Z" } : Jvm.MethodName) prog_32_method_4_code (3 : Nat) (Option.some Jvm.ClassFile.FieldType.boolean)]
set_option maxRecDepth 65536 in
theorem codes_eq : words1.filter isCode = codes1 := rfl
theorem w_codes : ∀ c ∈ words1.filter isCode, c.before args0 about1 = true := by
  rw [codes_eq]
  intro c hc
  simp only [codes1, List.mem_cons, List.not_mem_nil, or_false] at hc
  rcases hc with rfl | rfl
  · exact w_c0
  · exact w_c1
set_option maxRecDepth 65536 in
theorem w_t1 : words1.all (fun c => isCode c || c.before args0 about1) = true := by decide +kernel
theorem w_tables : (allAtoms (Jvm.Cond.code x code maxLocals ret :: tables_1)).before args0 about1 = true := by
  rw [allAtoms_all]
  show words1.all (fun c => c.before args0 about1) = true
  refine all_split ?_ w_codes
  rw [w_t1]
set_option maxRecDepth 65536 in
theorem w_case : (Jvm.Cond.and given_1 narrow_1).before args0 about1 = true := by decide +kernel
theorem w_applies : (headSpec (Jvm.Cond.code x code maxLocals ret :: tables_1) room_1).applies x e0.platform about1 = true :=
  (Spec.applies_iff w_frames).mpr ⟨w_running, w_runnable, w_alone, w_named, w_hears, w_ripe, w_room, w_tables⟩
theorem atStart : AtStart classFile x code maxLocals ret World_1 tables_1 room_1 Calls_1 rest_1 Pre_1 launch0 p0 e0 about1 theMethod args0 below0 :=
  ⟨lists_1, trivial, launch0.admits_env _ _ _, launch0.least_env, fairChoices_fair.cas, fairChoices_fair.clock, w_frames, w_args, w_heap, w_applies, trivial, trivial, w_case⟩
end start1
theorem witness_1 : WitnessClaimed_1 := ⟨start1.p0, start1.e0, start1.about1, start1.theMethod, start1.args0, start1.below0, start1.atStart⟩
end Jvm.Pilot.@@N@@
