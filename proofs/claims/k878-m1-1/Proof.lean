import JvmDerived
import JvmDerived.Pilot.@@N@@Statement
import JvmDerived.Pilot.@@N@@Code
set_option linter.unusedVariables false
set_option linter.unusedSimpArgs false
namespace Jvm.RoadKit
open Sem ClassFile Op Lib Jvm.Stand Jvm.Free Jvm.LawKit
section New
variable {p : Program} {l : Launch} {e : Env} {R : Room} {s : State} {m : MethodId} {args : Array Value} {below : List Frame} {meth : Method} {c : Code} {T : State} {locs : List Loc} {cells slots : Nat}
theorem retI (X : Stand p l e R s m args below meth c T locs cells slots) (hx : p.tables.exec = Jvm.exec) {pc : Nat} {Ls : Array Slot} {z : Int32} {rest : List Value} (hret : meth.sig.returnType = some .int) (hd : decode c.code pc = .ok (.ireturn, 1)) {fs : List Frame}
    (hl : ∀ (f : JFrame) (acts : List Action), f.method = m → f.locked = none → f.entered = [] → (doReturn e (T.setTop f) acts (some (.int z))).1 = T.setFrames fs) : Steps p.tables e below (T.setTop (mkF m pc Ls (.int z :: rest))) (T.setFrames fs) := by
  have hm' : T.vm.method? m = some meth := X.method'
  have hn : narrow .int (.int z) = .int z := rfl
  show Steps p.tables e below (T.setTop { method := m, pc := pc, locals := Ls, stack := _ :: rest, locked := none }) _
  jvm_step X.here [X.here.top, hx, hd, hm', hret, hn]
  first | (intro acts; rw [hl _ acts rfl rfl rfl]) | rw [hl _ _ rfl rfl rfl]
  exact Steps.refl _
end New
end Jvm.RoadKit
namespace Jvm.Pilot.@@N@@
open Jvm Jvm.ClassFile Sem Op Lib Jvm.Free Jvm.Stand Jvm.LawKit Jvm.RoadKit Bundle Jvm.Pilot.@@N@@.Jvm.D
def f1_0 (p1 : Int32) : Int32 := (if p1 = (8232 : Int32) then (1 : Int32) else (if p1 = (8233 : Int32) then (1 : Int32) else (0 : Int32)))
def f1_1 (p1 : Int32) : Int32 := (if p1 < (127 : Int32) then (f1_0 p1) else (if (159 : Int32) < p1 then (f1_0 p1) else (1 : Int32)))
def f1 (p1 : Int32) : Int32 := ((if p1 < (32 : Int32) then (1 : Int32) else (f1_1 p1)) &&& 1)
def f0_0 (p1 : Int32) : Int32 := (if ((p1 &&& (2147483647 : Int32)) >>> ((5 : Int32) &&& 31)) = (0 : Int32) then (1 : Int32) else (0 : Int32))
def f0_1 (p1 : Int32) : Int32 := (if (p1 &&& (2147483647 : Int32)) = (127 : Int32) then (1 : Int32) else (0 : Int32))
def f0_2 (p1 : Int32) : Int32 := (if ((p1 &&& (2147483647 : Int32)) >>> ((5 : Int32) &&& 31)) = (4 : Int32) then (1 : Int32) else (0 : Int32))
def f0_3 (p1 : Int32) : Int32 := (if ((p1 &&& (2147483647 : Int32)) >>> ((1 : Int32) &&& 31)) = (4116 : Int32) then (1 : Int32) else (0 : Int32))
def f0_4 (p1 : Int32) : Int32 := (if (f0_3 p1) = (0 : Int32) then (0 : Int32) else (1 : Int32))
def f0_5 (p1 : Int32) : Int32 := (if (f0_1 p1) = (0 : Int32) then (if (f0_2 p1) = (0 : Int32) then (f0_4 p1) else (1 : Int32)) else (1 : Int32))
def f0_6 (p1 : Int32) : Int32 := (if (f1 (p1 &&& (2147483647 : Int32))) = (if (f0_0 p1) = (0 : Int32) then (f0_5 p1) else (1 : Int32)) then (1 : Int32) else (0 : Int32))
def f0 (p1 : Int32) : Int32 := ((f0_6 p1) &&& 1)
theorem own_max (z : Int32) : 0 ≤ (z &&& (2147483647 : Int32)).toInt := by
  have h1 : (z &&& (2147483647 : Int32)).toBitVec.toNat = z.toBitVec.toNat % 2147483648 := by
    show (z.toBitVec &&& (2147483647 : Int32).toBitVec).toNat = _
    rw [BitVec.toNat_and, show (2147483647 : Int32).toBitVec.toNat = 2 ^ 31 - 1 from by decide, Nat.and_two_pow_sub_one_eq_mod]
  have h2 : (z &&& (2147483647 : Int32)).toInt = (z.toBitVec.toNat % 2147483648 : Nat) := by
    show (z &&& (2147483647 : Int32)).toBitVec.toInt = _
    rw [BitVec.toInt_eq_toNat_cond, h1, if_pos (by omega)]
  rw [h2]; omega
theorem own_sar (x q : Int32) (k : Nat) (hk : ((q &&& 31).toBitVec.smod 32).toNat = k) : (x >>> (q &&& 31)).toInt = x.toInt / (2 ^ k : Nat) := by
  show (x.toBitVec.sshiftRight' ((q &&& 31).toBitVec.smod 32)).toInt = x.toBitVec.toInt / _
  rw [BitVec.toInt_sshiftRight', Int.shiftRight_eq_div_pow, hk]
theorem own_law (p1 : Int32) : f0 p1 = 1 := by
  have h0 := own_max p1
  rw [f0, f0_6, f0_5, f0_4, f0_3, f0_2, f0_1, f0_0, f1, f1_1, f1_0]
  generalize p1 &&& (2147483647 : Int32) = c at *
  have s5 := own_sar c 5 5 (by decide)
  have s1 := own_sar c 1 1 (by decide)
  have e1 : (c >>> ((5 : Int32) &&& 31)) = 0 ↔ c < 32 := by
    rw [← Int32.toInt_inj, s5, Int32.lt_iff_toInt_lt, show (0 : Int32).toInt = 0 from by decide, show (32 : Int32).toInt = 32 from by decide]; omega
  have e2 : (c >>> ((5 : Int32) &&& 31)) = 4 ↔ (¬ c < 128) ∧ ¬ 159 < c := by
    rw [← Int32.toInt_inj, s5, Int32.lt_iff_toInt_lt, Int32.lt_iff_toInt_lt, show (4 : Int32).toInt = 4 from by decide, show (128 : Int32).toInt = 128 from by decide, show (159 : Int32).toInt = 159 from by decide]; omega
  have e3 : (c >>> ((1 : Int32) &&& 31)) = 4116 ↔ c = 8232 ∨ c = 8233 := by
    rw [← Int32.toInt_inj, s1, ← Int32.toInt_inj, ← Int32.toInt_inj, show (4116 : Int32).toInt = 4116 from by decide, show (8232 : Int32).toInt = 8232 from by decide, show (8233 : Int32).toInt = 8233 from by decide]; omega
  have e4 : c = 127 ↔ (¬ c < 127) ∧ c < 128 := by
    rw [← Int32.toInt_inj, Int32.lt_iff_toInt_lt, Int32.lt_iff_toInt_lt, show (127 : Int32).toInt = 127 from by decide, show (128 : Int32).toInt = 128 from by decide]; omega
  have e5 : c < 32 → c < 127 := by
    rw [Int32.lt_iff_toInt_lt, Int32.lt_iff_toInt_lt, show (32 : Int32).toInt = 32 from by decide, show (127 : Int32).toInt = 127 from by decide]; omega
  have e6 : c < 127 → c < 128 := by
    rw [Int32.lt_iff_toInt_lt, Int32.lt_iff_toInt_lt, show (127 : Int32).toInt = 127 from by decide, show (128 : Int32).toInt = 128 from by decide]; omega
  have e7 : c < 128 → ¬ 159 < c := by
    rw [Int32.lt_iff_toInt_lt, Int32.lt_iff_toInt_lt, show (159 : Int32).toInt = 159 from by decide, show (128 : Int32).toInt = 128 from by decide]; omega
  simp only [e1, e2, e3, e4]
  by_cases a : c < 32
  · have a2 := e5 a
    simp [a]
  · by_cases b : c < 127
    · have b2 := e6 b
      by_cases u : c = 8232 <;> by_cases v : c = 8233 <;> simp [a, b, b2, u, v]
    · by_cases d : c < 128
      · have d2 := e7 d
        simp [a, b, d, d2]
      · by_cases g : 159 < c
        · by_cases u : c = 8232 <;> by_cases v : c = 8233 <;> simp [a, b, d, g, u, v]
        · simp [a, b, d, g]

abbrev own_G (tb : Tables) (e : Env) (below : List Frame) (Q : Outcome → State → Prop) (A : State) : Prop := ∃ s₂ o, Steps tb e below A s₂ ∧ s₂.status = .running ∧ Ended s₂ below o ∧ Q o s₂
theorem own_step {tb : Tables} {e : Env} {below : List Frame} {Q : Outcome → State → Prop} {A B : State} (h : ∀ t, Steps tb e below B t → Steps tb e below A t) (g : own_G tb e below Q B) : own_G tb e below Q A := by
  obtain ⟨s2, o, h1, h2⟩ := g
  exact ⟨s2, o, h _ h1, h2⟩
theorem own_aT {x y : Addr} (h : x = y) : XT.acmp .eq (.ref x) (.ref y) = true ∧ XT.acmp .ne (.ref x) (.ref y) = false := by subst h; exact ⟨by simp [XT.acmp], by simp [XT.acmp]⟩
theorem own_aF {x y : Addr} (h : ¬ x = y) : XT.acmp .eq (.ref x) (.ref y) = false ∧ XT.acmp .ne (.ref x) (.ref y) = true := by simp [XT.acmp, h]
theorem own_cl (x y : Int64) : XT.cmpL x y < 0 ↔ x < y := lw_lt x y
theorem own_cg (x y : Int64) : 0 < XT.cmpL x y ↔ y < x := lw_gt x y
theorem own_ce (x y : Int64) : XT.cmpL x y = 0 ↔ x = y := lw_eq x y
theorem pd_0 : parseMethodDescriptor "(I)Z" = some ⟨[.int], some .boolean⟩ := by decide +kernel
theorem d1_0 : decode prog_16_method_7_code 0 = .ok (.iload_n 0, 1) := by decide +kernel
theorem d1_1 : decode prog_16_method_7_code 1 = .ok (.bipush 32, 2) := by decide +kernel
theorem d1_3 : decode prog_16_method_7_code 3 = .ok (.if_icmp .lt 30, 3) := by decide +kernel
theorem d1_6 : decode prog_16_method_7_code 6 = .ok (.iload_n 0, 1) := by decide +kernel
theorem d1_7 : decode prog_16_method_7_code 7 = .ok (.bipush 127, 2) := by decide +kernel
theorem d1_9 : decode prog_16_method_7_code 9 = .ok (.if_icmp .lt 10, 3) := by decide +kernel
theorem d1_12 : decode prog_16_method_7_code 12 = .ok (.iload_n 0, 1) := by decide +kernel
theorem d1_13 : decode prog_16_method_7_code 13 = .ok (.sipush 159, 3) := by decide +kernel
theorem d1_16 : decode prog_16_method_7_code 16 = .ok (.if_icmp .le 17, 3) := by decide +kernel
theorem d1_19 : decode prog_16_method_7_code 19 = .ok (.iload_n 0, 1) := by decide +kernel
theorem d1_20 : decode prog_16_method_7_code 20 = .ok (.sipush 8232, 3) := by decide +kernel
theorem d1_23 : decode prog_16_method_7_code 23 = .ok (.if_icmp .eq 10, 3) := by decide +kernel
theorem d1_26 : decode prog_16_method_7_code 26 = .ok (.iload_n 0, 1) := by decide +kernel
theorem d1_27 : decode prog_16_method_7_code 27 = .ok (.sipush 8233, 3) := by decide +kernel
theorem d1_30 : decode prog_16_method_7_code 30 = .ok (.if_icmp .ne 7, 3) := by decide +kernel
theorem d1_33 : decode prog_16_method_7_code 33 = .ok (.iconst 1, 1) := by decide +kernel
theorem d1_34 : decode prog_16_method_7_code 34 = .ok (.goto 4, 3) := by decide +kernel
theorem d1_37 : decode prog_16_method_7_code 37 = .ok (.iconst 0, 1) := by decide +kernel
theorem d1_38 : decode prog_16_method_7_code 38 = .ok (.ireturn, 1) := by decide +kernel
theorem pn_1 : plainName "com/example/keyprint/keyprint/JsonWriter" = true := by first | (simp [plainName, overriddenIn]; done) | decide +kernel
theorem ef_1 (m : MethodId) (p1 : Int32) : entryFrame m #[(.int p1)] 1 = mkF m 0 #[.val (.int p1)] [] := by first | (simp [entryFrame, mkF, argsToLocals, Value.category]; done) | rfl
def Q1 (Z : State) (p1 : Int32) (h0 : Heap) (n0 : Nat) (v : Option Value) (h : Heap) (L : List Loc) : Prop := v = some (.int (f1 p1)) ∧ Fr n0 L ∧ h = h0
set_option maxRecDepth 65536 in
set_option maxHeartbeats 40000000 in
theorem rm1 (l : Launch) (Z : State) (a0 : Array Value) (hw : ∀ d ∈ tables_1, d.before a0 Z = true) (ws : List Jvm.Cond) (p1 : Int32) (h0 : Heap) (n0 : Nat) (Z0 : n0 ≤ h0.size) :
    MetFree l (⟨"com/example/keyprint/keyprint/JsonWriter", "isControlOrSeparator", "(I)Z"⟩ : MethodName) (head1 (Jvm.Cond.code (⟨"com/example/keyprint/keyprint/JsonWriter", "isControlOrSeparator", "(I)Z"⟩ : MethodName) prog_16_method_7_code 1 (some .boolean) :: ws) ({ frames := 0, cells := 0, slots := 0, locals := 0 } : Room)) (fun a U => a = #[(.int p1)] ∧ Z.Warmed39 U.vm ∧ U.heap = h0) (fun _ _ _ _ _ => True) (fun _ U o U' => ∃ v L, o = .returned v ∧ Q1 Z p1 h0 n0 v U'.heap L ∧ FrameEnd U o U' L ({ frames := 0, cells := 0, slots := 0, locals := 0 } : Room).cells ({ frames := 0, cells := 0, slots := 0, locals := 0 } : Room).slots) := by
  refine MetFree.of_bodySF (plainFor_of_name pn_1) hisR ?_
  intro p e s m args below meth c s₁ Bd hml0 hP hK
  obtain ⟨rfl, hZ, hh⟩ := hP
  have hx := Bd.exec
  have hby := Bd.bytes
  have hml : c.maxLocals = 1 := hml0
  have hown : s.vm.findClass "com/example/keyprint/keyprint/JsonWriter" = some m.cls := findClass_of_methodNamed Bd.named
  have hnm := (name_of_methodNamed Bd.named Bd.method).1
  have X0 : Stand p l e ({ frames := 0, cells := 0, slots := 0, locals := 0 } : Room) s m #[(.int p1)] below meth c s₁ [] 0 0 := Stand.of_body Bd
  have e0 : s₁.heap = h0 := by rw [← hh, Bd.state]; rfl
  have N0 := Fr.nil n0
  have pre0 : ∀ t, Steps p.tables e below (s₁.setTop (mkF m 0 #[.val (.int p1)] [])) t → Steps p.tables e below (s₁.setTop (entryFrame m #[(.int p1)] 1)) t := fun t k => castTop (ef_1 m p1) k
  refine own_step (Q := fun o U' => ∃ v L, o = .returned v ∧ Q1 Z p1 h0 n0 v U'.heap L ∧ FrameEnd s o U' L ({ frames := 0, cells := 0, slots := 0, locals := 0 } : Room).cells ({ frames := 0, cells := 0, slots := 0, locals := 0 } : Room).slots) pre0 ?_
  have st14 : ∀ t, Steps p.tables e below (s₁.setTop (mkF m 38 #[.val (.int p1)] [(.int (if p1 < (32 : Int32) then (1 : Int32) else (f1_1 p1)))])) t → Steps p.tables e below (s₁.setTop (mkF m 3 #[.val (.int p1)] [(.int (32 : Int32)), (.int p1)])) t := by
    intro t k
    by_cases h1 : p1 < (32 : Int32)
    · rw [show (if p1 < (32 : Int32) then (1 : Int32) else (f1_1 p1)) = (1 : Int32) from if_pos h1] at k
      show Steps p.tables e below (s₁.setTop (mkF m 3 #[.val (.int p1)] [(.int (32 : Int32)), (.int p1)])) _
      refine XS.icmpYes X0.here hx rfl (pc0 := 3) (pc' := 33) rfl (hb hby d1_3) rfl (tlt h1).1 (by decide) (by decide) ?_
      show Steps p.tables e below (s₁.setTop (mkF m 33 #[.val (.int p1)] [])) _
      refine XS.iconst X0.here hx rfl (hb hby d1_33) ?_
      show Steps p.tables e below (s₁.setTop (mkF m 34 #[.val (.int p1)] [(.int (1 : Int32))])) _
      refine XS.goto X0.here hx rfl (pc0 := 34) (pc' := 38) rfl (hb hby d1_34) (by decide) (by decide) ?_
      exact k
    · have st13 : ∀ t, Steps p.tables e below (s₁.setTop (mkF m 38 #[.val (.int p1)] [(.int (f1_1 p1))])) t → Steps p.tables e below (s₁.setTop (mkF m 9 #[.val (.int p1)] [(.int (127 : Int32)), (.int p1)])) t := by
        intro t k
        by_cases h2 : p1 < (127 : Int32)
        · have st6 : ∀ t, Steps p.tables e below (s₁.setTop (mkF m 38 #[.val (.int p1)] [(.int (f1_0 p1))])) t → Steps p.tables e below (s₁.setTop (mkF m 23 #[.val (.int p1)] [(.int (8232 : Int32)), (.int p1)])) t := by
            intro t k
            by_cases h3 : p1 = (8232 : Int32)
            · rw [show (f1_0 p1) = (1 : Int32) from if_pos h3] at k
              show Steps p.tables e below (s₁.setTop (mkF m 23 #[.val (.int p1)] [(.int (8232 : Int32)), (.int p1)])) _
              refine XS.icmpYes X0.here hx rfl (pc0 := 23) (pc' := 33) rfl (hb hby d1_23) rfl (teq h3).1 (by decide) (by decide) ?_
              show Steps p.tables e below (s₁.setTop (mkF m 33 #[.val (.int p1)] [])) _
              refine XS.iconst X0.here hx rfl (hb hby d1_33) ?_
              show Steps p.tables e below (s₁.setTop (mkF m 34 #[.val (.int p1)] [(.int (1 : Int32))])) _
              refine XS.goto X0.here hx rfl (pc0 := 34) (pc' := 38) rfl (hb hby d1_34) (by decide) (by decide) ?_
              exact k
            · have st5 : ∀ t, Steps p.tables e below (s₁.setTop (mkF m 38 #[.val (.int p1)] [(.int (if p1 = (8233 : Int32) then (1 : Int32) else (0 : Int32)))])) t → Steps p.tables e below (s₁.setTop (mkF m 30 #[.val (.int p1)] [(.int (8233 : Int32)), (.int p1)])) t := by
                intro t k
                by_cases h4 : p1 = (8233 : Int32)
                · rw [show (if p1 = (8233 : Int32) then (1 : Int32) else (0 : Int32)) = (1 : Int32) from if_pos h4] at k
                  show Steps p.tables e below (s₁.setTop (mkF m 30 #[.val (.int p1)] [(.int (8233 : Int32)), (.int p1)])) _
                  refine XS.icmpNo X0.here hx rfl (hb hby d1_30) rfl (teq h4).2 ?_
                  show Steps p.tables e below (s₁.setTop (mkF m 33 #[.val (.int p1)] [])) _
                  refine XS.iconst X0.here hx rfl (hb hby d1_33) ?_
                  show Steps p.tables e below (s₁.setTop (mkF m 34 #[.val (.int p1)] [(.int (1 : Int32))])) _
                  refine XS.goto X0.here hx rfl (pc0 := 34) (pc' := 38) rfl (hb hby d1_34) (by decide) (by decide) ?_
                  exact k
                · rw [show (if p1 = (8233 : Int32) then (1 : Int32) else (0 : Int32)) = (0 : Int32) from if_neg h4] at k
                  show Steps p.tables e below (s₁.setTop (mkF m 30 #[.val (.int p1)] [(.int (8233 : Int32)), (.int p1)])) _
                  refine XS.icmpYes X0.here hx rfl (pc0 := 30) (pc' := 37) rfl (hb hby d1_30) rfl (feq h4).2 (by decide) (by decide) ?_
                  show Steps p.tables e below (s₁.setTop (mkF m 37 #[.val (.int p1)] [])) _
                  refine XS.iconst X0.here hx rfl (hb hby d1_37) ?_
                  exact k
              rw [show (f1_0 p1) = (if p1 = (8233 : Int32) then (1 : Int32) else (0 : Int32)) from if_neg h3] at k
              show Steps p.tables e below (s₁.setTop (mkF m 23 #[.val (.int p1)] [(.int (8232 : Int32)), (.int p1)])) _
              refine XS.icmpNo X0.here hx rfl (hb hby d1_23) rfl (feq h3).1 ?_
              show Steps p.tables e below (s₁.setTop (mkF m 26 #[.val (.int p1)] [])) _
              refine XS.iloadN X0.here hx rfl (hb hby d1_26) rfl ?_
              show Steps p.tables e below (s₁.setTop (mkF m 27 #[.val (.int p1)] [(.int p1)])) _
              refine XS.sipush X0.here hx rfl (hb hby d1_27) ?_
              show Steps p.tables e below (s₁.setTop (mkF m 30 #[.val (.int p1)] [(.int (8233 : Int32)), (.int p1)])) _
              refine st5 _ ?_
              exact k
          rw [show (f1_1 p1) = (f1_0 p1) from if_pos h2] at k
          show Steps p.tables e below (s₁.setTop (mkF m 9 #[.val (.int p1)] [(.int (127 : Int32)), (.int p1)])) _
          refine XS.icmpYes X0.here hx rfl (pc0 := 9) (pc' := 19) rfl (hb hby d1_9) rfl (tlt h2).1 (by decide) (by decide) ?_
          show Steps p.tables e below (s₁.setTop (mkF m 19 #[.val (.int p1)] [])) _
          refine XS.iloadN X0.here hx rfl (hb hby d1_19) rfl ?_
          show Steps p.tables e below (s₁.setTop (mkF m 20 #[.val (.int p1)] [(.int p1)])) _
          refine XS.sipush X0.here hx rfl (hb hby d1_20) ?_
          show Steps p.tables e below (s₁.setTop (mkF m 23 #[.val (.int p1)] [(.int (8232 : Int32)), (.int p1)])) _
          refine st6 _ ?_
          exact k
        · have st12 : ∀ t, Steps p.tables e below (s₁.setTop (mkF m 38 #[.val (.int p1)] [(.int (if (159 : Int32) < p1 then (f1_0 p1) else (1 : Int32)))])) t → Steps p.tables e below (s₁.setTop (mkF m 16 #[.val (.int p1)] [(.int (159 : Int32)), (.int p1)])) t := by
            intro t k
            by_cases h7 : (159 : Int32) < p1
            · have st11 : ∀ t, Steps p.tables e below (s₁.setTop (mkF m 38 #[.val (.int p1)] [(.int (f1_0 p1))])) t → Steps p.tables e below (s₁.setTop (mkF m 23 #[.val (.int p1)] [(.int (8232 : Int32)), (.int p1)])) t := by
                intro t k
                by_cases h8 : p1 = (8232 : Int32)
                · rw [show (f1_0 p1) = (1 : Int32) from if_pos h8] at k
                  show Steps p.tables e below (s₁.setTop (mkF m 23 #[.val (.int p1)] [(.int (8232 : Int32)), (.int p1)])) _
                  refine XS.icmpYes X0.here hx rfl (pc0 := 23) (pc' := 33) rfl (hb hby d1_23) rfl (teq h8).1 (by decide) (by decide) ?_
                  show Steps p.tables e below (s₁.setTop (mkF m 33 #[.val (.int p1)] [])) _
                  refine XS.iconst X0.here hx rfl (hb hby d1_33) ?_
                  show Steps p.tables e below (s₁.setTop (mkF m 34 #[.val (.int p1)] [(.int (1 : Int32))])) _
                  refine XS.goto X0.here hx rfl (pc0 := 34) (pc' := 38) rfl (hb hby d1_34) (by decide) (by decide) ?_
                  exact k
                · have st10 : ∀ t, Steps p.tables e below (s₁.setTop (mkF m 38 #[.val (.int p1)] [(.int (if p1 = (8233 : Int32) then (1 : Int32) else (0 : Int32)))])) t → Steps p.tables e below (s₁.setTop (mkF m 30 #[.val (.int p1)] [(.int (8233 : Int32)), (.int p1)])) t := by
                    intro t k
                    by_cases h9 : p1 = (8233 : Int32)
                    · rw [show (if p1 = (8233 : Int32) then (1 : Int32) else (0 : Int32)) = (1 : Int32) from if_pos h9] at k
                      show Steps p.tables e below (s₁.setTop (mkF m 30 #[.val (.int p1)] [(.int (8233 : Int32)), (.int p1)])) _
                      refine XS.icmpNo X0.here hx rfl (hb hby d1_30) rfl (teq h9).2 ?_
                      show Steps p.tables e below (s₁.setTop (mkF m 33 #[.val (.int p1)] [])) _
                      refine XS.iconst X0.here hx rfl (hb hby d1_33) ?_
                      show Steps p.tables e below (s₁.setTop (mkF m 34 #[.val (.int p1)] [(.int (1 : Int32))])) _
                      refine XS.goto X0.here hx rfl (pc0 := 34) (pc' := 38) rfl (hb hby d1_34) (by decide) (by decide) ?_
                      exact k
                    · rw [show (if p1 = (8233 : Int32) then (1 : Int32) else (0 : Int32)) = (0 : Int32) from if_neg h9] at k
                      show Steps p.tables e below (s₁.setTop (mkF m 30 #[.val (.int p1)] [(.int (8233 : Int32)), (.int p1)])) _
                      refine XS.icmpYes X0.here hx rfl (pc0 := 30) (pc' := 37) rfl (hb hby d1_30) rfl (feq h9).2 (by decide) (by decide) ?_
                      show Steps p.tables e below (s₁.setTop (mkF m 37 #[.val (.int p1)] [])) _
                      refine XS.iconst X0.here hx rfl (hb hby d1_37) ?_
                      exact k
                  rw [show (f1_0 p1) = (if p1 = (8233 : Int32) then (1 : Int32) else (0 : Int32)) from if_neg h8] at k
                  show Steps p.tables e below (s₁.setTop (mkF m 23 #[.val (.int p1)] [(.int (8232 : Int32)), (.int p1)])) _
                  refine XS.icmpNo X0.here hx rfl (hb hby d1_23) rfl (feq h8).1 ?_
                  show Steps p.tables e below (s₁.setTop (mkF m 26 #[.val (.int p1)] [])) _
                  refine XS.iloadN X0.here hx rfl (hb hby d1_26) rfl ?_
                  show Steps p.tables e below (s₁.setTop (mkF m 27 #[.val (.int p1)] [(.int p1)])) _
                  refine XS.sipush X0.here hx rfl (hb hby d1_27) ?_
                  show Steps p.tables e below (s₁.setTop (mkF m 30 #[.val (.int p1)] [(.int (8233 : Int32)), (.int p1)])) _
                  refine st10 _ ?_
                  exact k
              rw [show (if (159 : Int32) < p1 then (f1_0 p1) else (1 : Int32)) = (f1_0 p1) from if_pos h7] at k
              show Steps p.tables e below (s₁.setTop (mkF m 16 #[.val (.int p1)] [(.int (159 : Int32)), (.int p1)])) _
              refine XS.icmpNo X0.here hx rfl (hb hby d1_16) rfl (tlt h7).2.2.2 ?_
              show Steps p.tables e below (s₁.setTop (mkF m 19 #[.val (.int p1)] [])) _
              refine XS.iloadN X0.here hx rfl (hb hby d1_19) rfl ?_
              show Steps p.tables e below (s₁.setTop (mkF m 20 #[.val (.int p1)] [(.int p1)])) _
              refine XS.sipush X0.here hx rfl (hb hby d1_20) ?_
              show Steps p.tables e below (s₁.setTop (mkF m 23 #[.val (.int p1)] [(.int (8232 : Int32)), (.int p1)])) _
              refine st11 _ ?_
              exact k
            · rw [show (if (159 : Int32) < p1 then (f1_0 p1) else (1 : Int32)) = (1 : Int32) from if_neg h7] at k
              show Steps p.tables e below (s₁.setTop (mkF m 16 #[.val (.int p1)] [(.int (159 : Int32)), (.int p1)])) _
              refine XS.icmpYes X0.here hx rfl (pc0 := 16) (pc' := 33) rfl (hb hby d1_16) rfl (flt h7).2.2.2 (by decide) (by decide) ?_
              show Steps p.tables e below (s₁.setTop (mkF m 33 #[.val (.int p1)] [])) _
              refine XS.iconst X0.here hx rfl (hb hby d1_33) ?_
              show Steps p.tables e below (s₁.setTop (mkF m 34 #[.val (.int p1)] [(.int (1 : Int32))])) _
              refine XS.goto X0.here hx rfl (pc0 := 34) (pc' := 38) rfl (hb hby d1_34) (by decide) (by decide) ?_
              exact k
          rw [show (f1_1 p1) = (if (159 : Int32) < p1 then (f1_0 p1) else (1 : Int32)) from if_neg h2] at k
          show Steps p.tables e below (s₁.setTop (mkF m 9 #[.val (.int p1)] [(.int (127 : Int32)), (.int p1)])) _
          refine XS.icmpNo X0.here hx rfl (hb hby d1_9) rfl (flt h2).1 ?_
          show Steps p.tables e below (s₁.setTop (mkF m 12 #[.val (.int p1)] [])) _
          refine XS.iloadN X0.here hx rfl (hb hby d1_12) rfl ?_
          show Steps p.tables e below (s₁.setTop (mkF m 13 #[.val (.int p1)] [(.int p1)])) _
          refine XS.sipush X0.here hx rfl (hb hby d1_13) ?_
          show Steps p.tables e below (s₁.setTop (mkF m 16 #[.val (.int p1)] [(.int (159 : Int32)), (.int p1)])) _
          refine st12 _ ?_
          exact k
      rw [show (if p1 < (32 : Int32) then (1 : Int32) else (f1_1 p1)) = (f1_1 p1) from if_neg h1] at k
      show Steps p.tables e below (s₁.setTop (mkF m 3 #[.val (.int p1)] [(.int (32 : Int32)), (.int p1)])) _
      refine XS.icmpNo X0.here hx rfl (hb hby d1_3) rfl (flt h1).1 ?_
      show Steps p.tables e below (s₁.setTop (mkF m 6 #[.val (.int p1)] [])) _
      refine XS.iloadN X0.here hx rfl (hb hby d1_6) rfl ?_
      show Steps p.tables e below (s₁.setTop (mkF m 7 #[.val (.int p1)] [(.int p1)])) _
      refine XS.bipush X0.here hx rfl (hb hby d1_7) ?_
      show Steps p.tables e below (s₁.setTop (mkF m 9 #[.val (.int p1)] [(.int (127 : Int32)), (.int p1)])) _
      refine st13 _ ?_
      exact k
  obtain ⟨fs, hr, hrun, hended, hW, hsame⟩ := X0.leave (v := some (.int ((if p1 < (32 : Int32) then (1 : Int32) else (f1_1 p1)) &&& 1))) (fun h => by rw [Bd.returns] at h; cases h)
  refine ⟨_, _, ?_, hrun, hended, _, _, rfl, ?_, ⟨_, rfl⟩, hW, hsame.mono (by decide) (by decide)⟩
  · show Steps p.tables e below (s₁.setTop (mkF m 0 #[.val (.int p1)] [])) _
    refine XS.iloadN X0.here hx rfl (hb hby d1_0) rfl ?_
    show Steps p.tables e below (s₁.setTop (mkF m 1 #[.val (.int p1)] [(.int p1)])) _
    refine XS.bipush X0.here hx rfl (hb hby d1_1) ?_
    show Steps p.tables e below (s₁.setTop (mkF m 3 #[.val (.int p1)] [(.int (32 : Int32)), (.int p1)])) _
    refine st14 _ ?_
    show Steps p.tables e below (s₁.setTop (mkF m 38 #[.val (.int p1)] [(.int (if p1 < (32 : Int32) then (1 : Int32) else (f1_1 p1)))])) _
    exact retN X0 hx (t := .boolean) Bd.returns (by simp) (hb hby d1_38) hr
  · show Q1 Z p1 h0 n0 _ s₁.heap _
    rw [e0]
    have hf : f1 p1 = ((if p1 < (32 : Int32) then (1 : Int32) else (f1_1 p1)) &&& 1) := rfl
    exact ⟨by rw [hf], N0, rfl⟩
theorem pn_0 : plainName "com/example/keyprint/keyprint/JsonWriterIsControlOrSeparatorPinLaw" = true := by first | (simp [plainName, overriddenIn]; done) | decide +kernel
theorem ef_0 (m : MethodId) (p1 : Int32) : entryFrame m #[(.int p1)] maxLocals = mkF m 0 #[.val (.int p1), .unset, .unset, .unset, .unset, .unset, .unset] [] := by first | (simp [entryFrame, mkF, argsToLocals, Value.category, maxLocals]; done) | rfl
def Q0 (Z : State) (p1 : Int32) (h0 : Heap) (n0 : Nat) (v : Option Value) (h : Heap) (L : List Loc) : Prop := v = some (.int (1 : Int32)) ∧ Fr n0 L
set_option maxRecDepth 65536 in
set_option maxHeartbeats 40000000 in
theorem rm0 (l : Launch) (Z : State) (a0 : Array Value) (hw : ∀ d ∈ tables_1, d.before a0 Z = true) (ws : List Jvm.Cond) (p1 : Int32) (h0 : Heap) (n0 : Nat) (Z0 : n0 ≤ h0.size) :
    MetFree l x (head1 (Jvm.Cond.code x code maxLocals ret :: ws) room_1) (fun a U => a = #[(.int p1)] ∧ Z.Warmed39 U.vm ∧ U.heap = h0) (fun _ _ _ _ _ => True) (fun _ U o U' => ∃ v L, o = .returned v ∧ Q0 Z p1 h0 n0 v U'.heap L ∧ FrameEnd U o U' L room_1.cells room_1.slots) := by
  refine MetFree.of_bodySF (plainFor_of_name pn_0) hisR ?_
  intro p e s m args below meth c s₁ Bd hml0 hP hK
  obtain ⟨rfl, hZ, hh⟩ := hP
  have hx := Bd.exec
  have hby := Bd.bytes
  have hml : c.maxLocals = 7 := hml0
  have hown : s.vm.findClass "com/example/keyprint/keyprint/JsonWriterIsControlOrSeparatorPinLaw" = some m.cls := findClass_of_methodNamed Bd.named
  have hnm := (name_of_methodNamed Bd.named Bd.method).1
  have X0 : Stand p l e room_1 s m #[(.int p1)] below meth c s₁ [] 0 0 := Stand.of_body Bd
  have e0 : s₁.heap = h0 := by rw [← hh, Bd.state]; rfl
  have N0 := Fr.nil n0
  have pre0 : ∀ t, Steps p.tables e below (s₁.setTop (mkF m 0 #[.val (.int p1), .unset, .unset, .unset, .unset, .unset, .unset] [])) t → Steps p.tables e below (s₁.setTop (entryFrame m #[(.int p1)] maxLocals)) t := fun t k => castTop (ef_0 m p1) k
  refine own_step (Q := fun o U' => ∃ v L, o = .returned v ∧ Q0 Z p1 h0 n0 v U'.heap L ∧ FrameEnd s o U' L room_1.cells room_1.slots) pre0 ?_
  have K0 : Keep h0 h0 [] := Keep.refl h0 []
  have st2 : ∀ t, Steps p.tables e below (s₁.setTop (mkF m 16 #[.val (.int p1), .val (.int (p1 &&& (2147483647 : Int32))), .unset, .unset, .unset, .unset, .unset] [(.int (f0_0 p1))])) t → Steps p.tables e below (s₁.setTop (mkF m 8 #[.val (.int p1), .val (.int (p1 &&& (2147483647 : Int32))), .unset, .unset, .unset, .unset, .unset] [(.int ((p1 &&& (2147483647 : Int32)) >>> ((5 : Int32) &&& 31)))])) t := by
    intro t k
    by_cases h1 : ((p1 &&& (2147483647 : Int32)) >>> ((5 : Int32) &&& 31)) = (0 : Int32)
    · rw [show (f0_0 p1) = (1 : Int32) from if_pos h1] at k
      show Steps p.tables e below (s₁.setTop (mkF m 8 #[.val (.int p1), .val (.int (p1 &&& (2147483647 : Int32))), .unset, .unset, .unset, .unset, .unset] [(.int ((p1 &&& (2147483647 : Int32)) >>> ((5 : Int32) &&& 31)))])) _
      refine XS.ifNo X0.here hx rfl (hb hby at_8) rfl ((if0 _ _).trans (teq h1).2) ?_
      show Steps p.tables e below (s₁.setTop (mkF m 11 #[.val (.int p1), .val (.int (p1 &&& (2147483647 : Int32))), .unset, .unset, .unset, .unset, .unset] [])) _
      refine XS.iconst X0.here hx rfl (hb hby at_11) ?_
      show Steps p.tables e below (s₁.setTop (mkF m 12 #[.val (.int p1), .val (.int (p1 &&& (2147483647 : Int32))), .unset, .unset, .unset, .unset, .unset] [(.int (1 : Int32))])) _
      refine XS.goto X0.here hx rfl (pc0 := 12) (pc' := 16) rfl (hb hby at_12) (by decide) (by decide) ?_
      exact k
    · rw [show (f0_0 p1) = (0 : Int32) from if_neg h1] at k
      show Steps p.tables e below (s₁.setTop (mkF m 8 #[.val (.int p1), .val (.int (p1 &&& (2147483647 : Int32))), .unset, .unset, .unset, .unset, .unset] [(.int ((p1 &&& (2147483647 : Int32)) >>> ((5 : Int32) &&& 31)))])) _
      refine XS.ifYes X0.here hx rfl (pc0 := 8) (pc' := 15) rfl (hb hby at_8) rfl ((if0 _ _).trans (feq h1).2) (by decide) (by decide) ?_
      show Steps p.tables e below (s₁.setTop (mkF m 15 #[.val (.int p1), .val (.int (p1 &&& (2147483647 : Int32))), .unset, .unset, .unset, .unset, .unset] [])) _
      refine XS.iconst X0.here hx rfl (hb hby at_15) ?_
      exact k
  have st4 : ∀ t, Steps p.tables e below (s₁.setTop (mkF m 28 #[.val (.int p1), .val (.int (p1 &&& (2147483647 : Int32))), .val (.int (f0_0 p1)), .unset, .unset, .unset, .unset] [(.int (f0_1 p1))])) t → Steps p.tables e below (s₁.setTop (mkF m 20 #[.val (.int p1), .val (.int (p1 &&& (2147483647 : Int32))), .val (.int (f0_0 p1)), .unset, .unset, .unset, .unset] [(.int (127 : Int32)), (.int (p1 &&& (2147483647 : Int32)))])) t := by
    intro t k
    by_cases h3 : (p1 &&& (2147483647 : Int32)) = (127 : Int32)
    · rw [show (f0_1 p1) = (1 : Int32) from if_pos h3] at k
      show Steps p.tables e below (s₁.setTop (mkF m 20 #[.val (.int p1), .val (.int (p1 &&& (2147483647 : Int32))), .val (.int (f0_0 p1)), .unset, .unset, .unset, .unset] [(.int (127 : Int32)), (.int (p1 &&& (2147483647 : Int32)))])) _
      refine XS.icmpNo X0.here hx rfl (hb hby at_20) rfl (teq h3).2 ?_
      show Steps p.tables e below (s₁.setTop (mkF m 23 #[.val (.int p1), .val (.int (p1 &&& (2147483647 : Int32))), .val (.int (f0_0 p1)), .unset, .unset, .unset, .unset] [])) _
      refine XS.iconst X0.here hx rfl (hb hby at_23) ?_
      show Steps p.tables e below (s₁.setTop (mkF m 24 #[.val (.int p1), .val (.int (p1 &&& (2147483647 : Int32))), .val (.int (f0_0 p1)), .unset, .unset, .unset, .unset] [(.int (1 : Int32))])) _
      refine XS.goto X0.here hx rfl (pc0 := 24) (pc' := 28) rfl (hb hby at_24) (by decide) (by decide) ?_
      exact k
    · rw [show (f0_1 p1) = (0 : Int32) from if_neg h3] at k
      show Steps p.tables e below (s₁.setTop (mkF m 20 #[.val (.int p1), .val (.int (p1 &&& (2147483647 : Int32))), .val (.int (f0_0 p1)), .unset, .unset, .unset, .unset] [(.int (127 : Int32)), (.int (p1 &&& (2147483647 : Int32)))])) _
      refine XS.icmpYes X0.here hx rfl (pc0 := 20) (pc' := 27) rfl (hb hby at_20) rfl (feq h3).2 (by decide) (by decide) ?_
      show Steps p.tables e below (s₁.setTop (mkF m 27 #[.val (.int p1), .val (.int (p1 &&& (2147483647 : Int32))), .val (.int (f0_0 p1)), .unset, .unset, .unset, .unset] [])) _
      refine XS.iconst X0.here hx rfl (hb hby at_27) ?_
      exact k
  have st6 : ∀ t, Steps p.tables e below (s₁.setTop (mkF m 41 #[.val (.int p1), .val (.int (p1 &&& (2147483647 : Int32))), .val (.int (f0_0 p1)), .val (.int (f0_1 p1)), .unset, .unset, .unset] [(.int (f0_2 p1))])) t → Steps p.tables e below (s₁.setTop (mkF m 33 #[.val (.int p1), .val (.int (p1 &&& (2147483647 : Int32))), .val (.int (f0_0 p1)), .val (.int (f0_1 p1)), .unset, .unset, .unset] [(.int (4 : Int32)), (.int ((p1 &&& (2147483647 : Int32)) >>> ((5 : Int32) &&& 31)))])) t := by
    intro t k
    by_cases h5 : ((p1 &&& (2147483647 : Int32)) >>> ((5 : Int32) &&& 31)) = (4 : Int32)
    · rw [show (f0_2 p1) = (1 : Int32) from if_pos h5] at k
      show Steps p.tables e below (s₁.setTop (mkF m 33 #[.val (.int p1), .val (.int (p1 &&& (2147483647 : Int32))), .val (.int (f0_0 p1)), .val (.int (f0_1 p1)), .unset, .unset, .unset] [(.int (4 : Int32)), (.int ((p1 &&& (2147483647 : Int32)) >>> ((5 : Int32) &&& 31)))])) _
      refine XS.icmpNo X0.here hx rfl (hb hby at_33) rfl (teq h5).2 ?_
      show Steps p.tables e below (s₁.setTop (mkF m 36 #[.val (.int p1), .val (.int (p1 &&& (2147483647 : Int32))), .val (.int (f0_0 p1)), .val (.int (f0_1 p1)), .unset, .unset, .unset] [])) _
      refine XS.iconst X0.here hx rfl (hb hby at_36) ?_
      show Steps p.tables e below (s₁.setTop (mkF m 37 #[.val (.int p1), .val (.int (p1 &&& (2147483647 : Int32))), .val (.int (f0_0 p1)), .val (.int (f0_1 p1)), .unset, .unset, .unset] [(.int (1 : Int32))])) _
      refine XS.goto X0.here hx rfl (pc0 := 37) (pc' := 41) rfl (hb hby at_37) (by decide) (by decide) ?_
      exact k
    · rw [show (f0_2 p1) = (0 : Int32) from if_neg h5] at k
      show Steps p.tables e below (s₁.setTop (mkF m 33 #[.val (.int p1), .val (.int (p1 &&& (2147483647 : Int32))), .val (.int (f0_0 p1)), .val (.int (f0_1 p1)), .unset, .unset, .unset] [(.int (4 : Int32)), (.int ((p1 &&& (2147483647 : Int32)) >>> ((5 : Int32) &&& 31)))])) _
      refine XS.icmpYes X0.here hx rfl (pc0 := 33) (pc' := 40) rfl (hb hby at_33) rfl (feq h5).2 (by decide) (by decide) ?_
      show Steps p.tables e below (s₁.setTop (mkF m 40 #[.val (.int p1), .val (.int (p1 &&& (2147483647 : Int32))), .val (.int (f0_0 p1)), .val (.int (f0_1 p1)), .unset, .unset, .unset] [])) _
      refine XS.iconst X0.here hx rfl (hb hby at_40) ?_
      exact k
  have st8 : ∀ t, Steps p.tables e below (s₁.setTop (mkF m 57 #[.val (.int p1), .val (.int (p1 &&& (2147483647 : Int32))), .val (.int (f0_0 p1)), .val (.int (f0_1 p1)), .val (.int (f0_2 p1)), .unset, .unset] [(.int (f0_3 p1))])) t → Steps p.tables e below (s₁.setTop (mkF m 49 #[.val (.int p1), .val (.int (p1 &&& (2147483647 : Int32))), .val (.int (f0_0 p1)), .val (.int (f0_1 p1)), .val (.int (f0_2 p1)), .unset, .unset] [(.int (4116 : Int32)), (.int ((p1 &&& (2147483647 : Int32)) >>> ((1 : Int32) &&& 31)))])) t := by
    intro t k
    by_cases h7 : ((p1 &&& (2147483647 : Int32)) >>> ((1 : Int32) &&& 31)) = (4116 : Int32)
    · rw [show (f0_3 p1) = (1 : Int32) from if_pos h7] at k
      show Steps p.tables e below (s₁.setTop (mkF m 49 #[.val (.int p1), .val (.int (p1 &&& (2147483647 : Int32))), .val (.int (f0_0 p1)), .val (.int (f0_1 p1)), .val (.int (f0_2 p1)), .unset, .unset] [(.int (4116 : Int32)), (.int ((p1 &&& (2147483647 : Int32)) >>> ((1 : Int32) &&& 31)))])) _
      refine XS.icmpNo X0.here hx rfl (hb hby at_49) rfl (teq h7).2 ?_
      show Steps p.tables e below (s₁.setTop (mkF m 52 #[.val (.int p1), .val (.int (p1 &&& (2147483647 : Int32))), .val (.int (f0_0 p1)), .val (.int (f0_1 p1)), .val (.int (f0_2 p1)), .unset, .unset] [])) _
      refine XS.iconst X0.here hx rfl (hb hby at_52) ?_
      show Steps p.tables e below (s₁.setTop (mkF m 53 #[.val (.int p1), .val (.int (p1 &&& (2147483647 : Int32))), .val (.int (f0_0 p1)), .val (.int (f0_1 p1)), .val (.int (f0_2 p1)), .unset, .unset] [(.int (1 : Int32))])) _
      refine XS.goto X0.here hx rfl (pc0 := 53) (pc' := 57) rfl (hb hby at_53) (by decide) (by decide) ?_
      exact k
    · rw [show (f0_3 p1) = (0 : Int32) from if_neg h7] at k
      show Steps p.tables e below (s₁.setTop (mkF m 49 #[.val (.int p1), .val (.int (p1 &&& (2147483647 : Int32))), .val (.int (f0_0 p1)), .val (.int (f0_1 p1)), .val (.int (f0_2 p1)), .unset, .unset] [(.int (4116 : Int32)), (.int ((p1 &&& (2147483647 : Int32)) >>> ((1 : Int32) &&& 31)))])) _
      refine XS.icmpYes X0.here hx rfl (pc0 := 49) (pc' := 56) rfl (hb hby at_49) rfl (feq h7).2 (by decide) (by decide) ?_
      show Steps p.tables e below (s₁.setTop (mkF m 56 #[.val (.int p1), .val (.int (p1 &&& (2147483647 : Int32))), .val (.int (f0_0 p1)), .val (.int (f0_1 p1)), .val (.int (f0_2 p1)), .unset, .unset] [])) _
      refine XS.iconst X0.here hx rfl (hb hby at_56) ?_
      exact k
  have st16 : ∀ t, Steps p.tables e below (s₁.setTop (mkF m 82 #[.val (.int p1), .val (.int (p1 &&& (2147483647 : Int32))), .val (.int (f0_0 p1)), .val (.int (f0_1 p1)), .val (.int (f0_2 p1)), .val (.int (f0_3 p1)), .unset] [(.int (if (f0_0 p1) = (0 : Int32) then (f0_5 p1) else (1 : Int32)))])) t → Steps p.tables e below (s₁.setTop (mkF m 60 #[.val (.int p1), .val (.int (p1 &&& (2147483647 : Int32))), .val (.int (f0_0 p1)), .val (.int (f0_1 p1)), .val (.int (f0_2 p1)), .val (.int (f0_3 p1)), .unset] [(.int (f0_0 p1))])) t := by
    intro t k
    by_cases h9 : (f0_0 p1) = (0 : Int32)
    · have st15 : ∀ t, Steps p.tables e below (s₁.setTop (mkF m 82 #[.val (.int p1), .val (.int (p1 &&& (2147483647 : Int32))), .val (.int (f0_0 p1)), .val (.int (f0_1 p1)), .val (.int (f0_2 p1)), .val (.int (f0_3 p1)), .unset] [(.int (f0_5 p1))])) t → Steps p.tables e below (s₁.setTop (mkF m 64 #[.val (.int p1), .val (.int (p1 &&& (2147483647 : Int32))), .val (.int (f0_0 p1)), .val (.int (f0_1 p1)), .val (.int (f0_2 p1)), .val (.int (f0_3 p1)), .unset] [(.int (f0_1 p1))])) t := by
        intro t k
        by_cases h10 : (f0_1 p1) = (0 : Int32)
        · have st14 : ∀ t, Steps p.tables e below (s₁.setTop (mkF m 82 #[.val (.int p1), .val (.int (p1 &&& (2147483647 : Int32))), .val (.int (f0_0 p1)), .val (.int (f0_1 p1)), .val (.int (f0_2 p1)), .val (.int (f0_3 p1)), .unset] [(.int (if (f0_2 p1) = (0 : Int32) then (f0_4 p1) else (1 : Int32)))])) t → Steps p.tables e below (s₁.setTop (mkF m 69 #[.val (.int p1), .val (.int (p1 &&& (2147483647 : Int32))), .val (.int (f0_0 p1)), .val (.int (f0_1 p1)), .val (.int (f0_2 p1)), .val (.int (f0_3 p1)), .unset] [(.int (f0_2 p1))])) t := by
            intro t k
            by_cases h11 : (f0_2 p1) = (0 : Int32)
            · have st13 : ∀ t, Steps p.tables e below (s₁.setTop (mkF m 82 #[.val (.int p1), .val (.int (p1 &&& (2147483647 : Int32))), .val (.int (f0_0 p1)), .val (.int (f0_1 p1)), .val (.int (f0_2 p1)), .val (.int (f0_3 p1)), .unset] [(.int (f0_4 p1))])) t → Steps p.tables e below (s₁.setTop (mkF m 74 #[.val (.int p1), .val (.int (p1 &&& (2147483647 : Int32))), .val (.int (f0_0 p1)), .val (.int (f0_1 p1)), .val (.int (f0_2 p1)), .val (.int (f0_3 p1)), .unset] [(.int (f0_3 p1))])) t := by
                intro t k
                by_cases h12 : (f0_3 p1) = (0 : Int32)
                · rw [show (f0_4 p1) = (0 : Int32) from if_pos h12] at k
                  show Steps p.tables e below (s₁.setTop (mkF m 74 #[.val (.int p1), .val (.int (p1 &&& (2147483647 : Int32))), .val (.int (f0_0 p1)), .val (.int (f0_1 p1)), .val (.int (f0_2 p1)), .val (.int (f0_3 p1)), .unset] [(.int (f0_3 p1))])) _
                  refine XS.ifYes X0.here hx rfl (pc0 := 74) (pc' := 81) rfl (hb hby at_74) rfl ((if0 _ _).trans (teq h12).1) (by decide) (by decide) ?_
                  show Steps p.tables e below (s₁.setTop (mkF m 81 #[.val (.int p1), .val (.int (p1 &&& (2147483647 : Int32))), .val (.int (f0_0 p1)), .val (.int (f0_1 p1)), .val (.int (f0_2 p1)), .val (.int (f0_3 p1)), .unset] [])) _
                  refine XS.iconst X0.here hx rfl (hb hby at_81) ?_
                  exact k
                · rw [show (f0_4 p1) = (1 : Int32) from if_neg h12] at k
                  show Steps p.tables e below (s₁.setTop (mkF m 74 #[.val (.int p1), .val (.int (p1 &&& (2147483647 : Int32))), .val (.int (f0_0 p1)), .val (.int (f0_1 p1)), .val (.int (f0_2 p1)), .val (.int (f0_3 p1)), .unset] [(.int (f0_3 p1))])) _
                  refine XS.ifNo X0.here hx rfl (hb hby at_74) rfl ((if0 _ _).trans (feq h12).1) ?_
                  show Steps p.tables e below (s₁.setTop (mkF m 77 #[.val (.int p1), .val (.int (p1 &&& (2147483647 : Int32))), .val (.int (f0_0 p1)), .val (.int (f0_1 p1)), .val (.int (f0_2 p1)), .val (.int (f0_3 p1)), .unset] [])) _
                  refine XS.iconst X0.here hx rfl (hb hby at_77) ?_
                  show Steps p.tables e below (s₁.setTop (mkF m 78 #[.val (.int p1), .val (.int (p1 &&& (2147483647 : Int32))), .val (.int (f0_0 p1)), .val (.int (f0_1 p1)), .val (.int (f0_2 p1)), .val (.int (f0_3 p1)), .unset] [(.int (1 : Int32))])) _
                  refine XS.goto X0.here hx rfl (pc0 := 78) (pc' := 82) rfl (hb hby at_78) (by decide) (by decide) ?_
                  exact k
              rw [show (if (f0_2 p1) = (0 : Int32) then (f0_4 p1) else (1 : Int32)) = (f0_4 p1) from if_pos h11] at k
              show Steps p.tables e below (s₁.setTop (mkF m 69 #[.val (.int p1), .val (.int (p1 &&& (2147483647 : Int32))), .val (.int (f0_0 p1)), .val (.int (f0_1 p1)), .val (.int (f0_2 p1)), .val (.int (f0_3 p1)), .unset] [(.int (f0_2 p1))])) _
              refine XS.ifNo X0.here hx rfl (hb hby at_69) rfl ((if0 _ _).trans (teq h11).2) ?_
              show Steps p.tables e below (s₁.setTop (mkF m 72 #[.val (.int p1), .val (.int (p1 &&& (2147483647 : Int32))), .val (.int (f0_0 p1)), .val (.int (f0_1 p1)), .val (.int (f0_2 p1)), .val (.int (f0_3 p1)), .unset] [])) _
              refine XS.iload X0.here hx rfl (hb hby at_72) rfl ?_
              show Steps p.tables e below (s₁.setTop (mkF m 74 #[.val (.int p1), .val (.int (p1 &&& (2147483647 : Int32))), .val (.int (f0_0 p1)), .val (.int (f0_1 p1)), .val (.int (f0_2 p1)), .val (.int (f0_3 p1)), .unset] [(.int (f0_3 p1))])) _
              refine st13 _ ?_
              exact k
            · rw [show (if (f0_2 p1) = (0 : Int32) then (f0_4 p1) else (1 : Int32)) = (1 : Int32) from if_neg h11] at k
              show Steps p.tables e below (s₁.setTop (mkF m 69 #[.val (.int p1), .val (.int (p1 &&& (2147483647 : Int32))), .val (.int (f0_0 p1)), .val (.int (f0_1 p1)), .val (.int (f0_2 p1)), .val (.int (f0_3 p1)), .unset] [(.int (f0_2 p1))])) _
              refine XS.ifYes X0.here hx rfl (pc0 := 69) (pc' := 77) rfl (hb hby at_69) rfl ((if0 _ _).trans (feq h11).2) (by decide) (by decide) ?_
              show Steps p.tables e below (s₁.setTop (mkF m 77 #[.val (.int p1), .val (.int (p1 &&& (2147483647 : Int32))), .val (.int (f0_0 p1)), .val (.int (f0_1 p1)), .val (.int (f0_2 p1)), .val (.int (f0_3 p1)), .unset] [])) _
              refine XS.iconst X0.here hx rfl (hb hby at_77) ?_
              show Steps p.tables e below (s₁.setTop (mkF m 78 #[.val (.int p1), .val (.int (p1 &&& (2147483647 : Int32))), .val (.int (f0_0 p1)), .val (.int (f0_1 p1)), .val (.int (f0_2 p1)), .val (.int (f0_3 p1)), .unset] [(.int (1 : Int32))])) _
              refine XS.goto X0.here hx rfl (pc0 := 78) (pc' := 82) rfl (hb hby at_78) (by decide) (by decide) ?_
              exact k
          rw [show (f0_5 p1) = (if (f0_2 p1) = (0 : Int32) then (f0_4 p1) else (1 : Int32)) from if_pos h10] at k
          show Steps p.tables e below (s₁.setTop (mkF m 64 #[.val (.int p1), .val (.int (p1 &&& (2147483647 : Int32))), .val (.int (f0_0 p1)), .val (.int (f0_1 p1)), .val (.int (f0_2 p1)), .val (.int (f0_3 p1)), .unset] [(.int (f0_1 p1))])) _
          refine XS.ifNo X0.here hx rfl (hb hby at_64) rfl ((if0 _ _).trans (teq h10).2) ?_
          show Steps p.tables e below (s₁.setTop (mkF m 67 #[.val (.int p1), .val (.int (p1 &&& (2147483647 : Int32))), .val (.int (f0_0 p1)), .val (.int (f0_1 p1)), .val (.int (f0_2 p1)), .val (.int (f0_3 p1)), .unset] [])) _
          refine XS.iload X0.here hx rfl (hb hby at_67) rfl ?_
          show Steps p.tables e below (s₁.setTop (mkF m 69 #[.val (.int p1), .val (.int (p1 &&& (2147483647 : Int32))), .val (.int (f0_0 p1)), .val (.int (f0_1 p1)), .val (.int (f0_2 p1)), .val (.int (f0_3 p1)), .unset] [(.int (f0_2 p1))])) _
          refine st14 _ ?_
          exact k
        · rw [show (f0_5 p1) = (1 : Int32) from if_neg h10] at k
          show Steps p.tables e below (s₁.setTop (mkF m 64 #[.val (.int p1), .val (.int (p1 &&& (2147483647 : Int32))), .val (.int (f0_0 p1)), .val (.int (f0_1 p1)), .val (.int (f0_2 p1)), .val (.int (f0_3 p1)), .unset] [(.int (f0_1 p1))])) _
          refine XS.ifYes X0.here hx rfl (pc0 := 64) (pc' := 77) rfl (hb hby at_64) rfl ((if0 _ _).trans (feq h10).2) (by decide) (by decide) ?_
          show Steps p.tables e below (s₁.setTop (mkF m 77 #[.val (.int p1), .val (.int (p1 &&& (2147483647 : Int32))), .val (.int (f0_0 p1)), .val (.int (f0_1 p1)), .val (.int (f0_2 p1)), .val (.int (f0_3 p1)), .unset] [])) _
          refine XS.iconst X0.here hx rfl (hb hby at_77) ?_
          show Steps p.tables e below (s₁.setTop (mkF m 78 #[.val (.int p1), .val (.int (p1 &&& (2147483647 : Int32))), .val (.int (f0_0 p1)), .val (.int (f0_1 p1)), .val (.int (f0_2 p1)), .val (.int (f0_3 p1)), .unset] [(.int (1 : Int32))])) _
          refine XS.goto X0.here hx rfl (pc0 := 78) (pc' := 82) rfl (hb hby at_78) (by decide) (by decide) ?_
          exact k
      rw [show (if (f0_0 p1) = (0 : Int32) then (f0_5 p1) else (1 : Int32)) = (f0_5 p1) from if_pos h9] at k
      show Steps p.tables e below (s₁.setTop (mkF m 60 #[.val (.int p1), .val (.int (p1 &&& (2147483647 : Int32))), .val (.int (f0_0 p1)), .val (.int (f0_1 p1)), .val (.int (f0_2 p1)), .val (.int (f0_3 p1)), .unset] [(.int (f0_0 p1))])) _
      refine XS.ifNo X0.here hx rfl (hb hby at_60) rfl ((if0 _ _).trans (teq h9).2) ?_
      show Steps p.tables e below (s₁.setTop (mkF m 63 #[.val (.int p1), .val (.int (p1 &&& (2147483647 : Int32))), .val (.int (f0_0 p1)), .val (.int (f0_1 p1)), .val (.int (f0_2 p1)), .val (.int (f0_3 p1)), .unset] [])) _
      refine XS.iloadN X0.here hx rfl (hb hby at_63) rfl ?_
      show Steps p.tables e below (s₁.setTop (mkF m 64 #[.val (.int p1), .val (.int (p1 &&& (2147483647 : Int32))), .val (.int (f0_0 p1)), .val (.int (f0_1 p1)), .val (.int (f0_2 p1)), .val (.int (f0_3 p1)), .unset] [(.int (f0_1 p1))])) _
      refine st15 _ ?_
      exact k
    · rw [show (if (f0_0 p1) = (0 : Int32) then (f0_5 p1) else (1 : Int32)) = (1 : Int32) from if_neg h9] at k
      show Steps p.tables e below (s₁.setTop (mkF m 60 #[.val (.int p1), .val (.int (p1 &&& (2147483647 : Int32))), .val (.int (f0_0 p1)), .val (.int (f0_1 p1)), .val (.int (f0_2 p1)), .val (.int (f0_3 p1)), .unset] [(.int (f0_0 p1))])) _
      refine XS.ifYes X0.here hx rfl (pc0 := 60) (pc' := 77) rfl (hb hby at_60) rfl ((if0 _ _).trans (feq h9).2) (by decide) (by decide) ?_
      show Steps p.tables e below (s₁.setTop (mkF m 77 #[.val (.int p1), .val (.int (p1 &&& (2147483647 : Int32))), .val (.int (f0_0 p1)), .val (.int (f0_1 p1)), .val (.int (f0_2 p1)), .val (.int (f0_3 p1)), .unset] [])) _
      refine XS.iconst X0.here hx rfl (hb hby at_77) ?_
      show Steps p.tables e below (s₁.setTop (mkF m 78 #[.val (.int p1), .val (.int (p1 &&& (2147483647 : Int32))), .val (.int (f0_0 p1)), .val (.int (f0_1 p1)), .val (.int (f0_2 p1)), .val (.int (f0_3 p1)), .unset] [(.int (1 : Int32))])) _
      refine XS.goto X0.here hx rfl (pc0 := 78) (pc' := 82) rfl (hb hby at_78) (by decide) (by decide) ?_
      exact k
  obtain ⟨_, _, ⟨T17, L17, k17, n17⟩, -, X17, ⟨Lc17, hQ17, l17, y17, z17⟩, st17⟩ := Jvm.LawKit.callS X0 hx (y := (⟨"com/example/keyprint/keyprint/JsonWriter", "isControlOrSeparator", "(I)Z"⟩ : MethodName)) hown (mvT hZ (hw _ (List.mem_of_getElem? (i := 1) rfl))) (mvT hZ (hw _ (List.mem_of_getElem? (i := 2) rfl))) (mvT hZ (hw _ (List.mem_of_getElem? (i := 3) rfl))) (mvT hZ (hw _ (List.mem_of_getElem? (i := 4) rfl))) (by decide) (backOf (W := 0) (rm1 l Z a0 hw [] (p1 &&& (2147483647 : Int32)) h0 n0 Z0) hZ (hw _ (List.mem_of_getElem? (i := 4) rfl)) (hw _ (List.mem_of_getElem? (i := 3) rfl)) (by decide) (by decide)) (g := (mkF m 85 #[.val (.int p1), .val (.int (p1 &&& (2147483647 : Int32))), .val (.int (f0_0 p1)), .val (.int (f0_1 p1)), .val (.int (f0_2 p1)), .val (.int (f0_3 p1)), .val (.int (if (f0_0 p1) = (0 : Int32) then (f0_5 p1) else (1 : Int32)))] [(.int (p1 &&& (2147483647 : Int32)))])) rfl (by rw [hml]; rfl) (argsL := [(.int (p1 &&& (2147483647 : Int32)))]) (rest := []) (lenOf pd_0 rfl) rfl (by show 2 * 0 + _ ≤ _; exact Nat.le_of_eq rfl) (hb hby at_85) (fun _ _ => ⟨rfl, e0, (by decide : 0 + 0 ≤ _), (by decide : 0 + 0 ≤ _)⟩)
  dsimp only [Pt.U, Pt.locs, Pt.cells, Pt.slots] at X17 l17 y17 z17 st17 hQ17
  subst l17 y17 z17
  obtain ⟨rfl, N17q, e17⟩ := hQ17
  have N17 := Fr.app N0 N17q
  have st19 : ∀ t, Steps p.tables e below (T17.setTop (mkF m 98 #[.val (.int p1), .val (.int (p1 &&& (2147483647 : Int32))), .val (.int (f0_0 p1)), .val (.int (f0_1 p1)), .val (.int (f0_2 p1)), .val (.int (f0_3 p1)), .val (.int (if (f0_0 p1) = (0 : Int32) then (f0_5 p1) else (1 : Int32)))] [(.int (f0_6 p1))])) t → Steps p.tables e below (T17.setTop (mkF m 90 #[.val (.int p1), .val (.int (p1 &&& (2147483647 : Int32))), .val (.int (f0_0 p1)), .val (.int (f0_1 p1)), .val (.int (f0_2 p1)), .val (.int (f0_3 p1)), .val (.int (if (f0_0 p1) = (0 : Int32) then (f0_5 p1) else (1 : Int32)))] [(.int (if (f0_0 p1) = (0 : Int32) then (f0_5 p1) else (1 : Int32))), (.int (f1 (p1 &&& (2147483647 : Int32))))])) t := by
    intro t k
    by_cases h18 : (f1 (p1 &&& (2147483647 : Int32))) = (if (f0_0 p1) = (0 : Int32) then (f0_5 p1) else (1 : Int32))
    · rw [show (f0_6 p1) = (1 : Int32) from if_pos h18] at k
      show Steps p.tables e below (T17.setTop (mkF m 90 #[.val (.int p1), .val (.int (p1 &&& (2147483647 : Int32))), .val (.int (f0_0 p1)), .val (.int (f0_1 p1)), .val (.int (f0_2 p1)), .val (.int (f0_3 p1)), .val (.int (if (f0_0 p1) = (0 : Int32) then (f0_5 p1) else (1 : Int32)))] [(.int (if (f0_0 p1) = (0 : Int32) then (f0_5 p1) else (1 : Int32))), (.int (f1 (p1 &&& (2147483647 : Int32))))])) _
      refine XS.icmpNo X17.here hx rfl (hb hby at_90) rfl (teq h18).2 ?_
      show Steps p.tables e below (T17.setTop (mkF m 93 #[.val (.int p1), .val (.int (p1 &&& (2147483647 : Int32))), .val (.int (f0_0 p1)), .val (.int (f0_1 p1)), .val (.int (f0_2 p1)), .val (.int (f0_3 p1)), .val (.int (if (f0_0 p1) = (0 : Int32) then (f0_5 p1) else (1 : Int32)))] [])) _
      refine XS.iconst X17.here hx rfl (hb hby at_93) ?_
      show Steps p.tables e below (T17.setTop (mkF m 94 #[.val (.int p1), .val (.int (p1 &&& (2147483647 : Int32))), .val (.int (f0_0 p1)), .val (.int (f0_1 p1)), .val (.int (f0_2 p1)), .val (.int (f0_3 p1)), .val (.int (if (f0_0 p1) = (0 : Int32) then (f0_5 p1) else (1 : Int32)))] [(.int (1 : Int32))])) _
      refine XS.goto X17.here hx rfl (pc0 := 94) (pc' := 98) rfl (hb hby at_94) (by decide) (by decide) ?_
      exact k
    · rw [show (f0_6 p1) = (0 : Int32) from if_neg h18] at k
      show Steps p.tables e below (T17.setTop (mkF m 90 #[.val (.int p1), .val (.int (p1 &&& (2147483647 : Int32))), .val (.int (f0_0 p1)), .val (.int (f0_1 p1)), .val (.int (f0_2 p1)), .val (.int (f0_3 p1)), .val (.int (if (f0_0 p1) = (0 : Int32) then (f0_5 p1) else (1 : Int32)))] [(.int (if (f0_0 p1) = (0 : Int32) then (f0_5 p1) else (1 : Int32))), (.int (f1 (p1 &&& (2147483647 : Int32))))])) _
      refine XS.icmpYes X17.here hx rfl (pc0 := 90) (pc' := 97) rfl (hb hby at_90) rfl (feq h18).2 (by decide) (by decide) ?_
      show Steps p.tables e below (T17.setTop (mkF m 97 #[.val (.int p1), .val (.int (p1 &&& (2147483647 : Int32))), .val (.int (f0_0 p1)), .val (.int (f0_1 p1)), .val (.int (f0_2 p1)), .val (.int (f0_3 p1)), .val (.int (if (f0_0 p1) = (0 : Int32) then (f0_5 p1) else (1 : Int32)))] [])) _
      refine XS.iconst X17.here hx rfl (hb hby at_97) ?_
      exact k
  obtain ⟨fs, hr, hrun, hended, hW, hsame⟩ := X17.leave (v := some (.int ((f0_6 p1) &&& 1))) (fun h => by rw [Bd.returns] at h; cases h)
  refine ⟨_, _, ?_, hrun, hended, _, _, rfl, ?_, ⟨_, rfl⟩, hW, hsame.mono (by decide) (by decide)⟩
  · show Steps p.tables e below (s₁.setTop (mkF m 0 #[.val (.int p1), .unset, .unset, .unset, .unset, .unset, .unset] [])) _
    refine XS.iloadN X0.here hx rfl (hb hby at_0) rfl ?_
    show Steps p.tables e below (s₁.setTop (mkF m 1 #[.val (.int p1), .unset, .unset, .unset, .unset, .unset, .unset] [(.int p1)])) _
    refine X0.ldcInt hx hown (mvT hZ (hw _ (List.mem_of_getElem? (i := 0) rfl))) (g := (mkF m 1 #[.val (.int p1), .unset, .unset, .unset, .unset, .unset, .unset] [(.int p1)])) rfl (hb hby at_1) _ ?_
    show Steps p.tables e below (s₁.setTop (mkF m 3 #[.val (.int p1), .unset, .unset, .unset, .unset, .unset, .unset] [(.int (2147483647 : Int32)), (.int p1)])) _
    refine XS.iand X0.here hx rfl (hb hby at_3) rfl ?_
    show Steps p.tables e below (s₁.setTop (mkF m 4 #[.val (.int p1), .unset, .unset, .unset, .unset, .unset, .unset] [(.int (p1 &&& (2147483647 : Int32)))])) _
    refine XS.istoreN X0.here hx rfl (hb hby at_4) rfl (l' := #[.val (.int p1), .val (.int (p1 &&& (2147483647 : Int32))), .unset, .unset, .unset, .unset, .unset]) rfl ?_
    show Steps p.tables e below (s₁.setTop (mkF m 5 #[.val (.int p1), .val (.int (p1 &&& (2147483647 : Int32))), .unset, .unset, .unset, .unset, .unset] [])) _
    refine XS.iloadN X0.here hx rfl (hb hby at_5) rfl ?_
    show Steps p.tables e below (s₁.setTop (mkF m 6 #[.val (.int p1), .val (.int (p1 &&& (2147483647 : Int32))), .unset, .unset, .unset, .unset, .unset] [(.int (p1 &&& (2147483647 : Int32)))])) _
    refine XS.iconst X0.here hx rfl (hb hby at_6) ?_
    show Steps p.tables e below (s₁.setTop (mkF m 7 #[.val (.int p1), .val (.int (p1 &&& (2147483647 : Int32))), .unset, .unset, .unset, .unset, .unset] [(.int (5 : Int32)), (.int (p1 &&& (2147483647 : Int32)))])) _
    refine XT.ishr X0.here hx rfl (hb hby at_7) rfl ?_
    show Steps p.tables e below (s₁.setTop (mkF m 8 #[.val (.int p1), .val (.int (p1 &&& (2147483647 : Int32))), .unset, .unset, .unset, .unset, .unset] [(.int ((p1 &&& (2147483647 : Int32)) >>> ((5 : Int32) &&& 31)))])) _
    refine st2 _ ?_
    show Steps p.tables e below (s₁.setTop (mkF m 16 #[.val (.int p1), .val (.int (p1 &&& (2147483647 : Int32))), .unset, .unset, .unset, .unset, .unset] [(.int (f0_0 p1))])) _
    refine XS.istoreN X0.here hx rfl (hb hby at_16) rfl (l' := #[.val (.int p1), .val (.int (p1 &&& (2147483647 : Int32))), .val (.int (f0_0 p1)), .unset, .unset, .unset, .unset]) rfl ?_
    show Steps p.tables e below (s₁.setTop (mkF m 17 #[.val (.int p1), .val (.int (p1 &&& (2147483647 : Int32))), .val (.int (f0_0 p1)), .unset, .unset, .unset, .unset] [])) _
    refine XS.iloadN X0.here hx rfl (hb hby at_17) rfl ?_
    show Steps p.tables e below (s₁.setTop (mkF m 18 #[.val (.int p1), .val (.int (p1 &&& (2147483647 : Int32))), .val (.int (f0_0 p1)), .unset, .unset, .unset, .unset] [(.int (p1 &&& (2147483647 : Int32)))])) _
    refine XS.bipush X0.here hx rfl (hb hby at_18) ?_
    show Steps p.tables e below (s₁.setTop (mkF m 20 #[.val (.int p1), .val (.int (p1 &&& (2147483647 : Int32))), .val (.int (f0_0 p1)), .unset, .unset, .unset, .unset] [(.int (127 : Int32)), (.int (p1 &&& (2147483647 : Int32)))])) _
    refine st4 _ ?_
    show Steps p.tables e below (s₁.setTop (mkF m 28 #[.val (.int p1), .val (.int (p1 &&& (2147483647 : Int32))), .val (.int (f0_0 p1)), .unset, .unset, .unset, .unset] [(.int (f0_1 p1))])) _
    refine XS.istoreN X0.here hx rfl (hb hby at_28) rfl (l' := #[.val (.int p1), .val (.int (p1 &&& (2147483647 : Int32))), .val (.int (f0_0 p1)), .val (.int (f0_1 p1)), .unset, .unset, .unset]) rfl ?_
    show Steps p.tables e below (s₁.setTop (mkF m 29 #[.val (.int p1), .val (.int (p1 &&& (2147483647 : Int32))), .val (.int (f0_0 p1)), .val (.int (f0_1 p1)), .unset, .unset, .unset] [])) _
    refine XS.iloadN X0.here hx rfl (hb hby at_29) rfl ?_
    show Steps p.tables e below (s₁.setTop (mkF m 30 #[.val (.int p1), .val (.int (p1 &&& (2147483647 : Int32))), .val (.int (f0_0 p1)), .val (.int (f0_1 p1)), .unset, .unset, .unset] [(.int (p1 &&& (2147483647 : Int32)))])) _
    refine XS.iconst X0.here hx rfl (hb hby at_30) ?_
    show Steps p.tables e below (s₁.setTop (mkF m 31 #[.val (.int p1), .val (.int (p1 &&& (2147483647 : Int32))), .val (.int (f0_0 p1)), .val (.int (f0_1 p1)), .unset, .unset, .unset] [(.int (5 : Int32)), (.int (p1 &&& (2147483647 : Int32)))])) _
    refine XT.ishr X0.here hx rfl (hb hby at_31) rfl ?_
    show Steps p.tables e below (s₁.setTop (mkF m 32 #[.val (.int p1), .val (.int (p1 &&& (2147483647 : Int32))), .val (.int (f0_0 p1)), .val (.int (f0_1 p1)), .unset, .unset, .unset] [(.int ((p1 &&& (2147483647 : Int32)) >>> ((5 : Int32) &&& 31)))])) _
    refine XS.iconst X0.here hx rfl (hb hby at_32) ?_
    show Steps p.tables e below (s₁.setTop (mkF m 33 #[.val (.int p1), .val (.int (p1 &&& (2147483647 : Int32))), .val (.int (f0_0 p1)), .val (.int (f0_1 p1)), .unset, .unset, .unset] [(.int (4 : Int32)), (.int ((p1 &&& (2147483647 : Int32)) >>> ((5 : Int32) &&& 31)))])) _
    refine st6 _ ?_
    show Steps p.tables e below (s₁.setTop (mkF m 41 #[.val (.int p1), .val (.int (p1 &&& (2147483647 : Int32))), .val (.int (f0_0 p1)), .val (.int (f0_1 p1)), .unset, .unset, .unset] [(.int (f0_2 p1))])) _
    refine XS.istore X0.here hx rfl (hb hby at_41) rfl (l' := #[.val (.int p1), .val (.int (p1 &&& (2147483647 : Int32))), .val (.int (f0_0 p1)), .val (.int (f0_1 p1)), .val (.int (f0_2 p1)), .unset, .unset]) rfl ?_
    show Steps p.tables e below (s₁.setTop (mkF m 43 #[.val (.int p1), .val (.int (p1 &&& (2147483647 : Int32))), .val (.int (f0_0 p1)), .val (.int (f0_1 p1)), .val (.int (f0_2 p1)), .unset, .unset] [])) _
    refine XS.iloadN X0.here hx rfl (hb hby at_43) rfl ?_
    show Steps p.tables e below (s₁.setTop (mkF m 44 #[.val (.int p1), .val (.int (p1 &&& (2147483647 : Int32))), .val (.int (f0_0 p1)), .val (.int (f0_1 p1)), .val (.int (f0_2 p1)), .unset, .unset] [(.int (p1 &&& (2147483647 : Int32)))])) _
    refine XS.iconst X0.here hx rfl (hb hby at_44) ?_
    show Steps p.tables e below (s₁.setTop (mkF m 45 #[.val (.int p1), .val (.int (p1 &&& (2147483647 : Int32))), .val (.int (f0_0 p1)), .val (.int (f0_1 p1)), .val (.int (f0_2 p1)), .unset, .unset] [(.int (1 : Int32)), (.int (p1 &&& (2147483647 : Int32)))])) _
    refine XT.ishr X0.here hx rfl (hb hby at_45) rfl ?_
    show Steps p.tables e below (s₁.setTop (mkF m 46 #[.val (.int p1), .val (.int (p1 &&& (2147483647 : Int32))), .val (.int (f0_0 p1)), .val (.int (f0_1 p1)), .val (.int (f0_2 p1)), .unset, .unset] [(.int ((p1 &&& (2147483647 : Int32)) >>> ((1 : Int32) &&& 31)))])) _
    refine XS.sipush X0.here hx rfl (hb hby at_46) ?_
    show Steps p.tables e below (s₁.setTop (mkF m 49 #[.val (.int p1), .val (.int (p1 &&& (2147483647 : Int32))), .val (.int (f0_0 p1)), .val (.int (f0_1 p1)), .val (.int (f0_2 p1)), .unset, .unset] [(.int (4116 : Int32)), (.int ((p1 &&& (2147483647 : Int32)) >>> ((1 : Int32) &&& 31)))])) _
    refine st8 _ ?_
    show Steps p.tables e below (s₁.setTop (mkF m 57 #[.val (.int p1), .val (.int (p1 &&& (2147483647 : Int32))), .val (.int (f0_0 p1)), .val (.int (f0_1 p1)), .val (.int (f0_2 p1)), .unset, .unset] [(.int (f0_3 p1))])) _
    refine XS.istore X0.here hx rfl (hb hby at_57) rfl (l' := #[.val (.int p1), .val (.int (p1 &&& (2147483647 : Int32))), .val (.int (f0_0 p1)), .val (.int (f0_1 p1)), .val (.int (f0_2 p1)), .val (.int (f0_3 p1)), .unset]) rfl ?_
    show Steps p.tables e below (s₁.setTop (mkF m 59 #[.val (.int p1), .val (.int (p1 &&& (2147483647 : Int32))), .val (.int (f0_0 p1)), .val (.int (f0_1 p1)), .val (.int (f0_2 p1)), .val (.int (f0_3 p1)), .unset] [])) _
    refine XS.iloadN X0.here hx rfl (hb hby at_59) rfl ?_
    show Steps p.tables e below (s₁.setTop (mkF m 60 #[.val (.int p1), .val (.int (p1 &&& (2147483647 : Int32))), .val (.int (f0_0 p1)), .val (.int (f0_1 p1)), .val (.int (f0_2 p1)), .val (.int (f0_3 p1)), .unset] [(.int (f0_0 p1))])) _
    refine st16 _ ?_
    show Steps p.tables e below (s₁.setTop (mkF m 82 #[.val (.int p1), .val (.int (p1 &&& (2147483647 : Int32))), .val (.int (f0_0 p1)), .val (.int (f0_1 p1)), .val (.int (f0_2 p1)), .val (.int (f0_3 p1)), .unset] [(.int (if (f0_0 p1) = (0 : Int32) then (f0_5 p1) else (1 : Int32)))])) _
    refine XS.istore X0.here hx rfl (hb hby at_82) rfl (l' := #[.val (.int p1), .val (.int (p1 &&& (2147483647 : Int32))), .val (.int (f0_0 p1)), .val (.int (f0_1 p1)), .val (.int (f0_2 p1)), .val (.int (f0_3 p1)), .val (.int (if (f0_0 p1) = (0 : Int32) then (f0_5 p1) else (1 : Int32)))]) rfl ?_
    show Steps p.tables e below (s₁.setTop (mkF m 84 #[.val (.int p1), .val (.int (p1 &&& (2147483647 : Int32))), .val (.int (f0_0 p1)), .val (.int (f0_1 p1)), .val (.int (f0_2 p1)), .val (.int (f0_3 p1)), .val (.int (if (f0_0 p1) = (0 : Int32) then (f0_5 p1) else (1 : Int32)))] [])) _
    refine XS.iloadN X0.here hx rfl (hb hby at_84) rfl ?_
    show Steps p.tables e below (s₁.setTop (mkF m 85 #[.val (.int p1), .val (.int (p1 &&& (2147483647 : Int32))), .val (.int (f0_0 p1)), .val (.int (f0_1 p1)), .val (.int (f0_2 p1)), .val (.int (f0_3 p1)), .val (.int (if (f0_0 p1) = (0 : Int32) then (f0_5 p1) else (1 : Int32)))] [(.int (p1 &&& (2147483647 : Int32)))])) _
    refine st17 _ ?_
    show Steps p.tables e below (T17.setTop (mkF m 88 #[.val (.int p1), .val (.int (p1 &&& (2147483647 : Int32))), .val (.int (f0_0 p1)), .val (.int (f0_1 p1)), .val (.int (f0_2 p1)), .val (.int (f0_3 p1)), .val (.int (if (f0_0 p1) = (0 : Int32) then (f0_5 p1) else (1 : Int32)))] [(.int (f1 (p1 &&& (2147483647 : Int32))))])) _
    refine XS.iload X17.here hx rfl (hb hby at_88) rfl ?_
    show Steps p.tables e below (T17.setTop (mkF m 90 #[.val (.int p1), .val (.int (p1 &&& (2147483647 : Int32))), .val (.int (f0_0 p1)), .val (.int (f0_1 p1)), .val (.int (f0_2 p1)), .val (.int (f0_3 p1)), .val (.int (if (f0_0 p1) = (0 : Int32) then (f0_5 p1) else (1 : Int32)))] [(.int (if (f0_0 p1) = (0 : Int32) then (f0_5 p1) else (1 : Int32))), (.int (f1 (p1 &&& (2147483647 : Int32))))])) _
    refine st19 _ ?_
    show Steps p.tables e below (T17.setTop (mkF m 98 #[.val (.int p1), .val (.int (p1 &&& (2147483647 : Int32))), .val (.int (f0_0 p1)), .val (.int (f0_1 p1)), .val (.int (f0_2 p1)), .val (.int (f0_3 p1)), .val (.int (if (f0_0 p1) = (0 : Int32) then (f0_5 p1) else (1 : Int32)))] [(.int (f0_6 p1))])) _
    exact retN X17 hx (t := .boolean) Bd.returns (by simp) (hb hby at_98) hr
  · show Q0 Z p1 h0 n0 _ T17.heap _
    rw [e17]
    exact ⟨congrArg (fun z => some (Value.int z)) ((show f0 p1 = ((f0_6 p1) &&& 1) from by rfl).symm.trans (own_law p1)), N17⟩
set_option maxRecDepth 65536 in
set_option maxHeartbeats 40000000 in
theorem comes_1 {Post : Tables → Env → Array Value → State → Outcome → State → Prop} (hpost : ∀ tb e args s v u, (limb_1_1.after args s (.returned v) u = true ∧ limb_1_2.after args s (.returned v) u = true ∧ True) → FrameEnd s (.returned v) u (Jvm.fieldLocs frame_1_writes args s ++ Jvm.arrayLocs frame_1_arrays args s ++ Jvm.staticLocs frame_1_statics s) 0 0 → Post tb e args s (.returned v) u) :
    ArmFor flags0 classFile x code maxLocals ret World_1 tables_1 room_1 Calls_1 rest_1 Pre_1 Post := by
  intro l hfl _ _ p e ha hc hk s m args below hf hA hF happ hP
  obtain ⟨hcalls, hrest, hpre⟩ := hP
  obtain ⟨-, -, -, hnamed, -, -, -, hat⟩ := (Spec.applies_iff hf).mp happ
  obtain ⟨hg, hn⟩ := and_e (Cond.before_iff.mp (show (Jvm.Cond.and given_1 narrow_1).before args s = true from hpre))
  obtain ⟨hcnt, hg0⟩ := and_e hg
  obtain ⟨w0, rfl⟩ : ∃ w0 : Value, args = #[w0] := by
    have hs : args.size = 1 := by simpa [Cond.value, given_1] using hcnt
    obtain ⟨L⟩ := args
    match L, hs with
    | [w0], _ => exact ⟨w0, rfl⟩
  have hw := fun d (hd : d ∈ tables_1) => atoms_spec (ws := Jvm.Cond.code x code maxLocals ret :: tables_1) hat d (List.mem_cons_of_mem _ hd)
  have hfit : Fit s := fun {y c} hc i hi => by
    obtain ⟨ha, rfl⟩ := Array.getElem?_eq_some_iff.mp hc
    have q := List.all_eq_true.mp ((Array.all_eq_true_iff_forall_mem.mp hF) _ (Array.getElem_mem ha)) i (List.mem_range.mpr hi)
    simpa [Array.getElem?_eq_getElem hi] using q
  obtain ⟨i0, ei0⟩ := is_v hg0
  obtain rfl : w0 = (.int i0) := Option.some.inj ei0
  obtain ⟨n, o, h1, h2, h3, _, L, rfl, ⟨rfl, N⟩, hq⟩ := rm0 l s _ hw tables_1 i0 s.heap s.heap.size (Nat.le_refl _) p e ha hc hk s m _ below hf ((Spec.applies_iff_loose hf).mp happ).1 ⟨rfl, State.Warmed39.refl s, rfl⟩ trivial
  refine ⟨n, _, h1, h2, h3, hpost _ _ _ _ _ _ ⟨Cond.after_iff.mpr rfl, Cond.after_iff.mpr (eq_i res_at (Term.int_eval (1)) rfl), trivial⟩ ⟨hq.1, hq.2.1, (hq.2.2.sift fun y hy => Or.inr (N y hy)).mono (by decide) (by decide)⟩⟩
theorem main_1_1 : Claimed_1_1 := comes_1 fun _ _ _ _ _ _ h hF => ⟨h.1, hF⟩
theorem main_1_2 : Claimed_1_2 := comes_1 fun _ _ _ _ _ _ h hF => ⟨h.2.1, hF⟩
end Jvm.Pilot.@@N@@
namespace Jvm.Pilot.@@N@@
open Jvm Jvm.ClassFile Sem Op Lib Jvm.Free Jvm.Stand Jvm.Pilot.@@N@@.Jvm.D
/-! MADE BY PROGRAM (witnessworld.py) out of the Statement's table words and the real class files: 9 classes; the members and pool entries that the words name. The judged class is class 1, her method 1. -/
namespace start1
open Jvm.ClassFile
def u (s : String) : CpInfo := .utf8 (stringToUtf16 s)
/-- a pool by its gaps: so many unusable entries, then the entry; so many at the end -/
def gap : Nat → List CpInfo → List CpInfo
  | 0, r => r
  | n + 1, r => .unusable :: gap n r
def poolList (es : List (Nat × CpInfo)) (last : Nat) : List CpInfo := es.foldr (fun e r => gap e.1 (e.2 :: r)) (gap last [])
def pool (es : List (Nat × CpInfo)) (last : Nat) : Array CpInfo := ⟨poolList es last⟩
def fileOf (pool : Array CpInfo) (this : Nat) (attrs : Array Attribute := #[]) (ms : Array MethodInfo := #[]) (fl : Nat := 33) (sup : Nat := 0) (ifs : Array Nat := #[]) (fds : Array FieldInfo := #[]) : ClassFile where
  minorVersion := 0
  majorVersion := 65
  constantPool := pool
  accessFlags := fl
  thisClass := this
  superClass := sup
  interfaces := ifs
  fields := fds
  methods := ms
  attributes := attrs
def plain (name : String) (sup : Option ClassId) : Class where
  name := name
  kind := .ordinary
  loader := none
  accessFlags := 33
  super := sup
  interfaces := #[]
  cf := none
  fields := #[]
  methods := #[]
  instanceTypes := #[]
  staticTypes := #[]
  resolved := #[]
  callSites := []
  init := .initialized
  statics := none
  mirror := none

def pool0 : Array CpInfo := pool [(5, u "<init>"), (0, u "()V"), (1, .class_ 10), (1, u "java/lang/Object")] 113

def k0m0 : Method := { name := "<init>", desc := "()V", sig := { parameters := [], returnType := none }, accessFlags := 1, code := none }
/-- java/lang/Object -/
def k0 : Class := { plain "java/lang/Object" none with
  accessFlags := 33
  interfaces := #[]
  cf := some (fileOf pool0 8 #[] #[{ accessFlags := 1, nameIndex := 5, descriptorIndex := 6, attributes := #[] }] 33 0 #[] #[])
  fields := #[]
  methods := #[k0m0]
  instanceTypes := #[]
  staticTypes := #[]
  resolved := Array.replicate 124 none
  statics := none }

def pool1 : Array CpInfo := pool [(2, .class_ 4), (1, u "java/lang/Object"), (0, u "<init>"), (0, u "()V"), (0, .integer 2147483647), (0, .methodref 9 10), (0, .class_ 11), (0, .nameAndType 12 13), (0, u "com/example/keyprint/keyprint/JsonWriter"), (0, u "isControlOrSeparator"), (0, u "(I)Z"), (0, .class_ 15), (0, u "com/example/keyprint/keyprint/JsonWriterIsControlOrSeparatorPinLaw"), (2, u "law")] 3

def k1m0 : Method := { name := "<init>", desc := "()V", sig := { parameters := [], returnType := none }, accessFlags := 2, code := none }
def k1c1 : Code := { maxStack := 2, maxLocals := 7, code := code, exceptionTable := #[], attributes := #[] }
def k1m1 : Method := { name := "law", desc := "(I)Z", sig := { parameters := [.int], returnType := some .boolean }, accessFlags := 9, code := some k1c1 }
/-- com/example/keyprint/keyprint/JsonWriterIsControlOrSeparatorPinLaw -/
def k1 : Class := { plain "com/example/keyprint/keyprint/JsonWriterIsControlOrSeparatorPinLaw" (some 0) with
  accessFlags := 49
  interfaces := #[]
  cf := some (fileOf pool1 14 #[] #[{ accessFlags := 2, nameIndex := 5, descriptorIndex := 6, attributes := #[] }, { accessFlags := 9, nameIndex := 18, descriptorIndex := 13, attributes := #[] }] 49 2 #[] #[])
  fields := #[]
  methods := #[k1m0, k1m1]
  instanceTypes := #[]
  staticTypes := #[]
  resolved := Array.replicate 22 none
  statics := none }

def pool2 : Array CpInfo := pool [(4, .class_ 6), (1, u "java/lang/Object"), (9, .class_ 18), (1, u "com/example/keyprint/keyprint/JsonWriter"), (0, u "bytes"), (0, u "[B"), (2, u "size"), (0, u "I"), (30, u "ESCAPE"), (10, u "isControlOrSeparator"), (0, u "(I)Z"), (18, u "HEX_DIGITS"), (55, u "MAX_LENGTH")] 20

def k2c0 : Code := { maxStack := 2, maxLocals := 1, code := prog_16_method_7_code, exceptionTable := #[], attributes := #[] }
def k2m0 : Method := { name := "isControlOrSeparator", desc := "(I)Z", sig := { parameters := [.int], returnType := some .boolean }, accessFlags := 8, code := some k2c0 }
/-- com/example/keyprint/keyprint/JsonWriter -/
def k2 : Class := { plain "com/example/keyprint/keyprint/JsonWriter" (some 0) with
  accessFlags := 48
  interfaces := #[]
  cf := some (fileOf pool2 16 #[] #[{ accessFlags := 8, nameIndex := 66, descriptorIndex := 67, attributes := #[] }] 48 4 #[] #[{ accessFlags := 26, nameIndex := 86, descriptorIndex := 20, attributes := #[] }, { accessFlags := 26, nameIndex := 142, descriptorIndex := 24, attributes := #[] }, { accessFlags := 26, nameIndex := 55, descriptorIndex := 20, attributes := #[] }, { accessFlags := 2, nameIndex := 19, descriptorIndex := 20, attributes := #[] }, { accessFlags := 2, nameIndex := 23, descriptorIndex := 24, attributes := #[] }])
  fields := #[{ name := "HEX_DIGITS", type := (.array .byte), accessFlags := 26, slot := 0, constantValue := 0 }, { name := "MAX_LENGTH", type := .int, accessFlags := 26, slot := 1, constantValue := 0 }, { name := "ESCAPE", type := (.array .byte), accessFlags := 26, slot := 2, constantValue := 0 }, { name := "bytes", type := (.array .byte), accessFlags := 2, slot := 0, constantValue := 0 }, { name := "size", type := .int, accessFlags := 2, slot := 1, constantValue := 0 }]
  methods := #[k2m0]
  instanceTypes := #[(.array .byte), .int]
  staticTypes := #[(.array .byte), .int, (.array .byte)]
  resolved := Array.replicate 163 none
  statics := none }

def pool3 : Array CpInfo := pool [(1, u "java/lang/Cloneable"), (0, .class_ 1), (0, u "java/lang/Object"), (0, .class_ 3)] 3

/-- java/lang/Cloneable -/
def k3 : Class := { plain "java/lang/Cloneable" (some 0) with
  accessFlags := 1537
  interfaces := #[]
  cf := some (fileOf pool3 2 #[] #[] 1537 4 #[] #[])
  fields := #[]
  methods := #[]
  instanceTypes := #[]
  staticTypes := #[]
  resolved := Array.replicate 8 none
  statics := none }

def pool4 : Array CpInfo := pool [(1, u "java/io/Serializable"), (0, .class_ 1), (0, u "java/lang/Object"), (0, .class_ 3)] 3

/-- java/io/Serializable -/
def k4 : Class := { plain "java/io/Serializable" (some 0) with
  accessFlags := 1537
  interfaces := #[]
  cf := some (fileOf pool4 2 #[] #[] 1537 4 #[] #[])
  fields := #[]
  methods := #[]
  instanceTypes := #[]
  staticTypes := #[]
  resolved := Array.replicate 8 none
  statics := none }

/-- the primitive byte -/
def k5 : Class := { plain "byte" none with kind := .primitive 'B', accessFlags := 0x411 }
/-- [B -/
def k6 : Class := { plain "[B" (some 0) with kind := .array 5 .byte, interfaces := #[3, 4], accessFlags := 1041 }

/-- the primitive int -/
def k7 : Class := { plain "int" none with kind := .primitive 'I', accessFlags := 0x411 }
/-- [I -/
def k8 : Class := { plain "[I" (some 0) with kind := .array 7 .int, interfaces := #[3, 4], accessFlags := 1041 }

def heap : Heap := #[]
def classes : Array Class := #[k0, k1, k2, k3, k4, k5, k6, k7, k8]
def interned : List (Array UInt16 × Addr) := []
def slotsUsed : Nat := 0
def theMethod : MethodId := ⟨1, 1⟩
def args0 : Array Value := #[.int 7]
def aboutOver (below : List Frame) : State where
  vm := { classes := classes, interned := interned.toArray }
  heap := heap
  slotsUsed := slotsUsed
  threads := #[{ frames := .invoking theMethod args0 :: below }]
def below0 : List Frame := [.native { method := ⟨0, 0⟩, args := #[] }]
def about1 : State := aboutOver below0
def p0 : Program := .bare "" "" ""
def e0 : Env := launch0.env 0 0 0
theorem w_frames : about1.frames = Frame.invoking theMethod args0 :: below0 := rfl
set_option maxRecDepth 65536 in
theorem w_args : argsFit about1.vm theMethod args0 = true := by decide +kernel
set_option maxRecDepth 65536 in
theorem w_heap : heapFits about1 = true := by decide +kernel
set_option maxRecDepth 65536 in
theorem w_runnable : about1.curStatus? = some .runnable := by decide +kernel
set_option maxRecDepth 65536 in
theorem w_alone : about1.alone = true := by decide +kernel
set_option maxRecDepth 65536 in
theorem w_named : about1.methodNamed? x = some theMethod := by decide +kernel
set_option maxRecDepth 65536 in
theorem w_hears : about1.hears theMethod below0 = true := by decide +kernel
set_option maxRecDepth 65536 in
theorem w_ripe : about1.ripe theMethod args0 below0 = true := by decide +kernel
theorem w_running : about1.status = .running := rfl
set_option maxRecDepth 65536 in
theorem w_room : about1.hasRoom e0.platform room_1 = true :=
  launch0.hasRoom_least _ room_1 (by decide +kernel) (by decide +kernel) (by decide +kernel) (by decide +kernel) (by decide +kernel) (by decide +kernel)
theorem allAtoms_all (ts : List Jvm.Cond) (a : Array Jvm.Value) (st : Jvm.State) : (allAtoms ts).before a st = ts.all (fun c => c.before a st) := by
  induction ts with
  | nil => rfl
  | cons c t ih =>
    show (Jvm.Cond.and c (allAtoms t)).before a st = _
    rw [Jvm.Cond.before_and, ih, List.all_cons]
def words1 : List Jvm.Cond := Jvm.Cond.code x code maxLocals ret :: tables_1
/-- a 'code' word, met by the world's own term for the bytes: nothing is compared byte by byte -/
theorem code_word {y : MethodName} {bytes : ByteArray} {mx : Nat} {rt : Option FieldType} {a : Array Value} {s : State} {m : MethodId} {meth : Method} {c : Code} (h1 : s.methodNamed? y = some m) (h2 : s.vm.method? m = some meth) (h3 : meth.code = some c) (h4 : c.code = bytes)
    (h5 : (c.maxLocals == mx && c.exceptionTable.isEmpty && decide (c.maxStack ≤ mostOperands) && decide (meth.sig.returnType = rt) && !meth.locks && decide (parseMethodDescriptor y.desc = some meth.sig)) = true) : (Jvm.Cond.code y bytes mx rt).before a s = true := by
  simp only [Bool.and_eq_true, beq_iff_eq, Bool.not_eq_true', decide_eq_true_eq] at h5
  obtain ⟨⟨⟨⟨⟨g1, g2⟩, g3⟩, g4⟩, g5⟩, g6⟩ := h5
  simp [Cond.before, Cond.holds, Cond.value, h1, h2, h3, h4, g1, g2, g3, g4, g5, g6]
def isCode : Jvm.Cond → Bool
  | .code _ _ _ _ => true
  | _ => false
theorem all_split {L : List Jvm.Cond} {P : Jvm.Cond → Bool} (h1 : L.all (fun c => isCode c || P c) = true) (h2 : ∀ c ∈ L.filter isCode, P c = true) : L.all P = true := by
  refine List.all_eq_true.mpr fun c hc => ?_
  have h := List.all_eq_true.mp h1 c hc
  rcases Bool.eq_false_or_eq_true (isCode c) with hi | hi
  · exact h2 c (List.mem_filter.mpr ⟨hc, hi⟩)
  · simpa [hi] using h
set_option maxRecDepth 65536 in
theorem w_c0 : (Jvm.Cond.code x code maxLocals ret).before args0 about1 = true := code_word (m := ⟨1, 1⟩) (meth := k1m1) (c := k1c1) (by decide +kernel) rfl rfl rfl (by decide +kernel)
set_option maxRecDepth 65536 in
theorem w_c1 : (Jvm.Cond.code ({ cls := "com/example/keyprint/keyprint/JsonWriter", name := "isControlOrSeparator", desc := "(I)Z" } : Jvm.MethodName) prog_16_method_7_code (1 : Nat) (Option.some Jvm.ClassFile.FieldType.boolean)).before args0 about1 = true := code_word (m := ⟨2, 0⟩) (meth := k2m0) (c := k2c0) (by decide +kernel) rfl rfl rfl (by decide +kernel)
def codes1 : List Jvm.Cond := [Jvm.Cond.code x code maxLocals ret, Jvm.Cond.code ({ cls := "com/example/keyprint/keyprint/JsonWriter", name := "isControlOrSeparator", desc := "(I)Z" } : Jvm.MethodName) prog_16_method_7_code (1 : Nat) (Option.some Jvm.ClassFile.FieldType.boolean)]
set_option maxRecDepth 65536 in
theorem codes_eq : words1.filter isCode = codes1 := rfl
theorem w_codes : ∀ c ∈ words1.filter isCode, c.before args0 about1 = true := by
  rw [codes_eq]
  intro c hc
  simp only [codes1, List.mem_cons, List.not_mem_nil, or_false] at hc
  rcases hc with rfl | rfl
  · exact w_c0
  · exact w_c1
set_option maxRecDepth 65536 in
theorem w_t1 : words1.all (fun c => isCode c || c.before args0 about1) = true := by decide +kernel
theorem w_tables : (allAtoms (Jvm.Cond.code x code maxLocals ret :: tables_1)).before args0 about1 = true := by
  rw [allAtoms_all]
  show words1.all (fun c => c.before args0 about1) = true
  refine all_split ?_ w_codes
  rw [w_t1]
set_option maxRecDepth 65536 in
theorem w_case : (Jvm.Cond.and given_1 narrow_1).before args0 about1 = true := by decide +kernel
theorem w_applies : (headSpec (Jvm.Cond.code x code maxLocals ret :: tables_1) room_1).applies x e0.platform about1 = true :=
  (Spec.applies_iff w_frames).mpr ⟨w_running, w_runnable, w_alone, w_named, w_hears, w_ripe, w_room, w_tables⟩
theorem atStart : AtStart classFile x code maxLocals ret World_1 tables_1 room_1 Calls_1 rest_1 Pre_1 launch0 p0 e0 about1 theMethod args0 below0 :=
  ⟨lists_1, trivial, launch0.admits_env _ _ _, launch0.least_env, fairChoices_fair.cas, fairChoices_fair.clock, w_frames, w_args, w_heap, w_applies, trivial, trivial, w_case⟩
end start1
theorem witness_1 : WitnessClaimed_1 := ⟨start1.p0, start1.e0, start1.about1, start1.theMethod, start1.args0, start1.below0, start1.atStart⟩
end Jvm.Pilot.@@N@@
