import JvmDerived
import JvmDerived.Pilot.@@N@@Statement
import JvmDerived.Pilot.@@N@@Code
set_option linter.unusedVariables false
set_option linter.unusedSimpArgs false
namespace Jvm.RoadKit
open Sem ClassFile Op Lib Jvm.Stand Jvm.Free Jvm.LawKit
section New
variable {p : Program} {l : Launch} {e : Env} {R : Room} {s : State} {m : MethodId} {args : Array Value} {below : List Frame} {meth : Method} {c : Code} {T : State} {locs : List Loc} {cells slots : Nat}
theorem retI (X : Stand p l e R s m args below meth c T locs cells slots) (hx : p.tables.exec = Jvm.exec) {pc : Nat} {Ls : Array Slot} {z : Int32} {rest : List Value} (hret : meth.sig.returnType = some .int) (hd : decode c.code pc = .ok (.ireturn, 1)) {fs : List Frame}
    (hl : ∀ (f : JFrame) (acts : List Action), f.method = m → f.locked = none → f.entered = [] → (doReturn e (T.setTop f) acts (some (.int z))).1 = T.setFrames fs) : Steps p.tables e below (T.setTop (mkF m pc Ls (.int z :: rest))) (T.setFrames fs) := by
  have hm' : T.vm.method? m = some meth := X.method'
  have hn : narrow .int (.int z) = .int z := rfl
  show Steps p.tables e below (T.setTop { method := m, pc := pc, locals := Ls, stack := _ :: rest, locked := none }) _
  jvm_step X.here [X.here.top, hx, hd, hm', hret, hn]
  first | (intro acts; rw [hl _ acts rfl rfl rfl]) | rw [hl _ _ rfl rfl rfl]
  exact Steps.refl _
end New
end Jvm.RoadKit
namespace Jvm.Pilot.@@N@@
open Jvm Jvm.ClassFile Sem Op Lib Jvm.Free Jvm.Stand Jvm.LawKit Jvm.RoadKit Bundle Jvm.Pilot.@@N@@.Jvm.D
def f1 (q1 : Int64) : Int32 := q1.toInt32
def f0_0 (q1 : Int64) (p2 : Int32) : Int64 := ((q1 &&& (9223372036854775807 : Int64)) - ((q1 &&& (9223372036854775807 : Int64)) / (2147483640 : Int64)) * (2147483640 : Int64))
def f0_1 (q1 : Int64) (p2 : Int32) : Int64 := ((2147483639 : Int64) - ((XT.ushr p2 (1 : Int32)) &&& (15 : Int32)).toInt64)
def f0_2 (q1 : Int64) (p2 : Int32) : Int64 := (if (p2 &&& (1 : Int32)) = (0 : Int32) then (f0_0 q1 p2) else (f0_1 q1 p2))
def f0_3 (q1 : Int64) (p2 : Int32) : Int32 := (if (f1 (f0_2 q1 p2)).toInt64 = (f0_2 q1 p2) then (1 : Int32) else (0 : Int32))
def f0 (q1 : Int64) (p2 : Int32) : Int32 := ((f0_3 q1 p2) &&& 1)
theorem own_m15 (z : Int32) : 0 ≤ (z &&& (15 : Int32)).toInt ∧ (z &&& (15 : Int32)).toInt ≤ 15 := by
  have h1 : (z &&& (15 : Int32)).toBitVec.toNat = z.toBitVec.toNat % 16 := by
    show (z.toBitVec &&& (15 : Int32).toBitVec).toNat = _
    rw [BitVec.toNat_and, show (15 : Int32).toBitVec.toNat = 2 ^ 4 - 1 from by decide, Nat.and_two_pow_sub_one_eq_mod]
  have h2 : (z &&& (15 : Int32)).toInt = (z.toBitVec.toNat % 16 : Nat) := by
    show (z &&& (15 : Int32)).toBitVec.toInt = _
    rw [BitVec.toInt_eq_toNat_cond, h1, if_pos (by omega)]
  rw [h2]; omega
theorem own_max (z : Int64) : 0 ≤ (z &&& (9223372036854775807 : Int64)).toInt := by
  have h1 : (z &&& (9223372036854775807 : Int64)).toBitVec.toNat = z.toBitVec.toNat % 9223372036854775808 := by
    show (z.toBitVec &&& (9223372036854775807 : Int64).toBitVec).toNat = _
    rw [BitVec.toNat_and, show (9223372036854775807 : Int64).toBitVec.toNat = 2 ^ 63 - 1 from by decide, Nat.and_two_pow_sub_one_eq_mod]
  have h2 : (z &&& (9223372036854775807 : Int64)).toInt = (z.toBitVec.toNat % 9223372036854775808 : Nat) := by
    show (z &&& (9223372036854775807 : Int64)).toBitVec.toInt = _
    rw [BitVec.toInt_eq_toNat_cond, h1, if_pos (by omega)]
  rw [h2]; omega
theorem own_rng (q1 : Int64) (p2 : Int32) : 0 ≤ (f0_2 q1 p2).toInt ∧ (f0_2 q1 p2).toInt ≤ 2147483639 := by
  rw [f0_2]
  split
  · rw [f0_0]
    have h0 := own_max q1
    generalize q1 &&& (9223372036854775807 : Int64) = x at *
    have e : ((2147483639 : Int64) + (1 : Int64)) = 2147483640 := by decide
    try rw [e]
    have d : (x / 2147483640).toInt = x.toInt / 2147483640 := by
      rw [Int64.toInt_div_of_ne_right x 2147483640 (by decide), show (2147483640 : Int64).toInt = 2147483640 from by decide, Int.tdiv_eq_ediv_of_nonneg h0]
    have hx := x.toInt_lt
    rw [Int64.toInt_sub, Int64.toInt_mul, d, show (2147483640 : Int64).toInt = 2147483640 from by decide]
    have b1 : (x.toInt / 2147483640 * 2147483640).bmod (2 ^ 64) = x.toInt / 2147483640 * 2147483640 := by
      rw [Int.bmod_def]; omega
    rw [b1, Int.bmod_def]
    omega
  · rw [f0_1]
    have h := own_m15 (XT.ushr p2 (1 : Int32))
    generalize XT.ushr p2 (1 : Int32) &&& (15 : Int32) = z at *
    rw [Int64.toInt_sub, Int32.toInt_toInt64, show (2147483639 : Int64).toInt = 2147483639 from by decide, Int.bmod_def]
    omega
theorem own_len (q1 : Int64) (p2 : Int32) : ¬ ((2147483639 : Int64) < f0_2 q1 p2) := by
  have h := own_rng q1 p2
  rw [Int64.lt_iff_toInt_lt, show (2147483639 : Int64).toInt = 2147483639 from by decide]
  omega
theorem own_law (q1 : Int64) (p2 : Int32) : f0 q1 p2 = 1 := by
  have h := own_rng q1 p2
  rw [f0, f0_3]
  have e : (f1 (f0_2 q1 p2)).toInt64 = f0_2 q1 p2 := by
    rw [f1, ← Int64.toInt_inj, Int32.toInt_toInt64, Int64.toInt_toInt32, Int.bmod_def]
    omega
  rw [if_pos e]; rfl

abbrev own_G (tb : Tables) (e : Env) (below : List Frame) (Q : Outcome → State → Prop) (A : State) : Prop := ∃ s₂ o, Steps tb e below A s₂ ∧ s₂.status = .running ∧ Ended s₂ below o ∧ Q o s₂
theorem own_step {tb : Tables} {e : Env} {below : List Frame} {Q : Outcome → State → Prop} {A B : State} (h : ∀ t, Steps tb e below B t → Steps tb e below A t) (g : own_G tb e below Q B) : own_G tb e below Q A := by
  obtain ⟨s2, o, h1, h2⟩ := g
  exact ⟨s2, o, h _ h1, h2⟩
theorem own_aT {x y : Addr} (h : x = y) : XT.acmp .eq (.ref x) (.ref y) = true ∧ XT.acmp .ne (.ref x) (.ref y) = false := by subst h; exact ⟨by simp [XT.acmp], by simp [XT.acmp]⟩
theorem own_aF {x y : Addr} (h : ¬ x = y) : XT.acmp .eq (.ref x) (.ref y) = false ∧ XT.acmp .ne (.ref x) (.ref y) = true := by simp [XT.acmp, h]
theorem own_cl (x y : Int64) : XT.cmpL x y < 0 ↔ x < y := lw_lt x y
theorem own_cg (x y : Int64) : 0 < XT.cmpL x y ↔ y < x := lw_gt x y
theorem own_ce (x y : Int64) : XT.cmpL x y = 0 ↔ x = y := lw_eq x y
theorem pd_0 : parseMethodDescriptor "(J)I" = some ⟨[.long], some .int⟩ := by decide +kernel
theorem d1_0 : decode prog_16_method_16_code 0 = .ok (.lload_n 0, 1) := by decide +kernel
theorem d1_1 : decode prog_16_method_16_code 1 = .ok (.ldc2_w 114, 3) := by decide +kernel
theorem d1_4 : decode prog_16_method_16_code 4 = .ok (.lcmp, 1) := by decide +kernel
theorem d1_5 : decode prog_16_method_16_code 5 = .ok (.ifCond .le 13, 3) := by decide +kernel
theorem d1_18 : decode prog_16_method_16_code 18 = .ok (.lload_n 0, 1) := by decide +kernel
theorem d1_19 : decode prog_16_method_16_code 19 = .ok (.l2i, 1) := by decide +kernel
theorem d1_20 : decode prog_16_method_16_code 20 = .ok (.ireturn, 1) := by decide +kernel
theorem pn_1 : plainName "com/example/keyprint/keyprint/JsonWriter" = true := by first | (simp [plainName, overriddenIn]; done) | decide +kernel
theorem ef_1 (m : MethodId) (q1 : Int64) : entryFrame m #[(.long q1)] 2 = mkF m 0 #[.val (.long q1), .second] [] := by first | (simp [entryFrame, mkF, argsToLocals, Value.category]; done) | rfl
def Q1 (Z : State) (q1 : Int64) (h0 : Heap) (n0 : Nat) (v : Option Value) (h : Heap) (L : List Loc) : Prop := v = some (.int (f1 q1)) ∧ Fr n0 L ∧ h = h0
set_option maxRecDepth 65536 in
set_option maxHeartbeats 40000000 in
theorem rm1 (l : Launch) (Z : State) (a0 : Array Value) (hw : ∀ d ∈ tables_1, d.before a0 Z = true) (ws : List Jvm.Cond) (q1 : Int64) (h0 : Heap) (n0 : Nat) (Z0 : n0 ≤ h0.size) (hp : ¬ ((2147483639 : Int64) < q1)) :
    MetFree l (⟨"com/example/keyprint/keyprint/JsonWriter", "requireLength", "(J)I"⟩ : MethodName) (head1 (Jvm.Cond.code (⟨"com/example/keyprint/keyprint/JsonWriter", "requireLength", "(J)I"⟩ : MethodName) prog_16_method_16_code 2 (some .int) :: ws) ({ frames := 0, cells := 0, slots := 0, locals := 0 } : Room)) (fun a U => a = #[(.long q1)] ∧ Z.Warmed39 U.vm ∧ U.heap = h0) (fun _ _ _ _ _ => True) (fun _ U o U' => ∃ v L, o = .returned v ∧ Q1 Z q1 h0 n0 v U'.heap L ∧ FrameEnd U o U' L ({ frames := 0, cells := 0, slots := 0, locals := 0 } : Room).cells ({ frames := 0, cells := 0, slots := 0, locals := 0 } : Room).slots) := by
  refine MetFree.of_bodySF (plainFor_of_name pn_1) hisR ?_
  intro p e s m args below meth c s₁ Bd hml0 hP hK
  obtain ⟨rfl, hZ, hh⟩ := hP
  have hx := Bd.exec
  have hby := Bd.bytes
  have hml : c.maxLocals = 2 := hml0
  have hown : s.vm.findClass "com/example/keyprint/keyprint/JsonWriter" = some m.cls := findClass_of_methodNamed Bd.named
  have hnm := (name_of_methodNamed Bd.named Bd.method).1
  have X0 : Stand p l e ({ frames := 0, cells := 0, slots := 0, locals := 0 } : Room) s m #[(.long q1)] below meth c s₁ [] 0 0 := Stand.of_body Bd
  have e0 : s₁.heap = h0 := by rw [← hh, Bd.state]; rfl
  have N0 := Fr.nil n0
  have pre0 : ∀ t, Steps p.tables e below (s₁.setTop (mkF m 0 #[.val (.long q1), .second] [])) t → Steps p.tables e below (s₁.setTop (entryFrame m #[(.long q1)] 2)) t := fun t k => castTop (ef_1 m q1) k
  refine own_step (Q := fun o U' => ∃ v L, o = .returned v ∧ Q1 Z q1 h0 n0 v U'.heap L ∧ FrameEnd s o U' L ({ frames := 0, cells := 0, slots := 0, locals := 0 } : Room).cells ({ frames := 0, cells := 0, slots := 0, locals := 0 } : Room).slots) pre0 ?_
  have h1 : ¬ ((2147483639 : Int64) < q1) := hp
  obtain ⟨fs, hr, hrun, hended, hW, hsame⟩ := X0.leave (v := some (.int q1.toInt32)) (fun h => by rw [Bd.returns] at h; cases h)
  refine ⟨_, _, ?_, hrun, hended, _, _, rfl, ?_, ⟨_, rfl⟩, hW, hsame.mono (by decide) (by decide)⟩
  · show Steps p.tables e below (s₁.setTop (mkF m 0 #[.val (.long q1), .second] [])) _
    refine XT.lloadN X0.here hx rfl (hb hby d1_0) rfl ?_
    show Steps p.tables e below (s₁.setTop (mkF m 1 #[.val (.long q1), .second] [(.long q1)])) _
    refine X0.ldc2Long hx hown (mvT hZ (hw _ (List.mem_of_getElem? (i := 6) rfl))) (g := (mkF m 1 #[.val (.long q1), .second] [(.long q1)])) rfl (hb hby d1_1) _ ?_
    show Steps p.tables e below (s₁.setTop (mkF m 4 #[.val (.long q1), .second] [(.long (2147483639 : Int64)), (.long q1)])) _
    refine XT.lcmp X0.here hx rfl (hb hby d1_4) rfl ?_
    show Steps p.tables e below (s₁.setTop (mkF m 5 #[.val (.long q1), .second] [(.int (XT.cmpL q1 (2147483639 : Int64)))])) _
    refine XS.ifYes X0.here hx rfl (pc0 := 5) (pc' := 18) rfl (hb hby d1_5) rfl ((if0 _ _).trans (flt (mt (own_cg _ _).mp h1)).2.2.2) (by decide) (by decide) ?_
    show Steps p.tables e below (s₁.setTop (mkF m 18 #[.val (.long q1), .second] [])) _
    refine XT.lloadN X0.here hx rfl (hb hby d1_18) rfl ?_
    show Steps p.tables e below (s₁.setTop (mkF m 19 #[.val (.long q1), .second] [(.long q1)])) _
    refine XT.l2i X0.here hx rfl (hb hby d1_19) rfl ?_
    show Steps p.tables e below (s₁.setTop (mkF m 20 #[.val (.long q1), .second] [(.int q1.toInt32)])) _
    exact retI X0 hx Bd.returns (hb hby d1_20) hr
  · show Q1 Z q1 h0 n0 _ s₁.heap _
    rw [e0]
    have hf : f1 q1 = q1.toInt32 := rfl
    exact ⟨by rw [hf], N0, rfl⟩
theorem pn_0 : plainName "com/example/keyprint/keyprint/JsonWriterRequireLengthPinLaw" = true := by first | (simp [plainName, overriddenIn]; done) | decide +kernel
theorem ef_0 (m : MethodId) (q1 : Int64) (p2 : Int32) : entryFrame m #[(.long q1), (.int p2)] maxLocals = mkF m 0 #[.val (.long q1), .second, .val (.int p2), .unset, .unset, .unset, .unset, .unset] [] := by first | (simp [entryFrame, mkF, argsToLocals, Value.category, maxLocals]; done) | rfl
def Q0 (Z : State) (q1 : Int64) (p2 : Int32) (h0 : Heap) (n0 : Nat) (v : Option Value) (h : Heap) (L : List Loc) : Prop := v = some (.int (1 : Int32)) ∧ Fr n0 L
set_option maxRecDepth 65536 in
set_option maxHeartbeats 40000000 in
theorem rm0 (l : Launch) (Z : State) (a0 : Array Value) (hw : ∀ d ∈ tables_1, d.before a0 Z = true) (ws : List Jvm.Cond) (q1 : Int64) (p2 : Int32) (h0 : Heap) (n0 : Nat) (Z0 : n0 ≤ h0.size) :
    MetFree l x (head1 (Jvm.Cond.code x code maxLocals ret :: ws) room_1) (fun a U => a = #[(.long q1), (.int p2)] ∧ Z.Warmed39 U.vm ∧ U.heap = h0) (fun _ _ _ _ _ => True) (fun _ U o U' => ∃ v L, o = .returned v ∧ Q0 Z q1 p2 h0 n0 v U'.heap L ∧ FrameEnd U o U' L room_1.cells room_1.slots) := by
  refine MetFree.of_bodySF (plainFor_of_name pn_0) hisR ?_
  intro p e s m args below meth c s₁ Bd hml0 hP hK
  obtain ⟨rfl, hZ, hh⟩ := hP
  have hx := Bd.exec
  have hby := Bd.bytes
  have hml : c.maxLocals = 8 := hml0
  have hown : s.vm.findClass "com/example/keyprint/keyprint/JsonWriterRequireLengthPinLaw" = some m.cls := findClass_of_methodNamed Bd.named
  have hnm := (name_of_methodNamed Bd.named Bd.method).1
  have X0 : Stand p l e room_1 s m #[(.long q1), (.int p2)] below meth c s₁ [] 0 0 := Stand.of_body Bd
  have e0 : s₁.heap = h0 := by rw [← hh, Bd.state]; rfl
  have N0 := Fr.nil n0
  have pre0 : ∀ t, Steps p.tables e below (s₁.setTop (mkF m 0 #[.val (.long q1), .second, .val (.int p2), .unset, .unset, .unset, .unset, .unset] [])) t → Steps p.tables e below (s₁.setTop (entryFrame m #[(.long q1), (.int p2)] maxLocals)) t := fun t k => castTop (ef_0 m q1 p2) k
  refine own_step (Q := fun o U' => ∃ v L, o = .returned v ∧ Q0 Z q1 p2 h0 n0 v U'.heap L ∧ FrameEnd s o U' L room_1.cells room_1.slots) pre0 ?_
  have K0 : Keep h0 h0 [] := Keep.refl h0 []
  have st2 : ∀ t, Steps p.tables e below (s₁.setTop (mkF m 35 #[.val (.long q1), .second, .val (.int p2), .val (.long (2147483639 : Int64)), .second, .val (.long (f0_2 q1 p2)), .second, .unset] [])) t → Steps p.tables e below (s₁.setTop (mkF m 7 #[.val (.long q1), .second, .val (.int p2), .val (.long (2147483639 : Int64)), .second, .unset, .unset, .unset] [(.int (p2 &&& (1 : Int32)))])) t := by
    intro t k
    by_cases h1 : (p2 &&& (1 : Int32)) = (0 : Int32)
    · rw [show (f0_2 q1 p2) = (f0_0 q1 p2) from if_pos h1] at k
      show Steps p.tables e below (s₁.setTop (mkF m 7 #[.val (.long q1), .second, .val (.int p2), .val (.long (2147483639 : Int64)), .second, .unset, .unset, .unset] [(.int (p2 &&& (1 : Int32)))])) _
      refine XS.ifYes X0.here hx rfl (pc0 := 7) (pc' := 24) rfl (hb hby at_7) rfl ((if0 _ _).trans (teq h1).1) (by decide) (by decide) ?_
      show Steps p.tables e below (s₁.setTop (mkF m 24 #[.val (.long q1), .second, .val (.int p2), .val (.long (2147483639 : Int64)), .second, .unset, .unset, .unset] [])) _
      refine XT.lloadN X0.here hx rfl (hb hby at_24) rfl ?_
      show Steps p.tables e below (s₁.setTop (mkF m 25 #[.val (.long q1), .second, .val (.int p2), .val (.long (2147483639 : Int64)), .second, .unset, .unset, .unset] [(.long q1)])) _
      refine X0.ldc2Long hx hown (mvT hZ (hw _ (List.mem_of_getElem? (i := 1) rfl))) (g := (mkF m 25 #[.val (.long q1), .second, .val (.int p2), .val (.long (2147483639 : Int64)), .second, .unset, .unset, .unset] [(.long q1)])) rfl (hb hby at_25) _ ?_
      show Steps p.tables e below (s₁.setTop (mkF m 28 #[.val (.long q1), .second, .val (.int p2), .val (.long (2147483639 : Int64)), .second, .unset, .unset, .unset] [(.long (9223372036854775807 : Int64)), (.long q1)])) _
      refine XT.land X0.here hx rfl (hb hby at_28) rfl ?_
      show Steps p.tables e below (s₁.setTop (mkF m 29 #[.val (.long q1), .second, .val (.int p2), .val (.long (2147483639 : Int64)), .second, .unset, .unset, .unset] [(.long (q1 &&& (9223372036854775807 : Int64)))])) _
      refine XT.lloadN X0.here hx rfl (hb hby at_29) rfl ?_
      show Steps p.tables e below (s₁.setTop (mkF m 30 #[.val (.long q1), .second, .val (.int p2), .val (.long (2147483639 : Int64)), .second, .unset, .unset, .unset] [(.long (2147483639 : Int64)), (.long (q1 &&& (9223372036854775807 : Int64)))])) _
      refine XT.lconst X0.here hx rfl (hb hby at_30) ?_
      show Steps p.tables e below (s₁.setTop (mkF m 31 #[.val (.long q1), .second, .val (.int p2), .val (.long (2147483639 : Int64)), .second, .unset, .unset, .unset] [(.long (1 : Int64)), (.long (2147483639 : Int64)), (.long (q1 &&& (9223372036854775807 : Int64)))])) _
      refine XT.ladd X0.here hx rfl (hb hby at_31) rfl ?_
      show Steps p.tables e below (s₁.setTop (mkF m 32 #[.val (.long q1), .second, .val (.int p2), .val (.long (2147483639 : Int64)), .second, .unset, .unset, .unset] [(.long (2147483640 : Int64)), (.long (q1 &&& (9223372036854775807 : Int64)))])) _
      refine XT.lrem X0.here hx rfl (hb hby at_32) rfl (by decide) ?_
      show Steps p.tables e below (s₁.setTop (mkF m 33 #[.val (.long q1), .second, .val (.int p2), .val (.long (2147483639 : Int64)), .second, .unset, .unset, .unset] [(.long (f0_0 q1 p2))])) _
      refine XT.lstore X0.here hx rfl (hb hby at_33) rfl (l' := #[.val (.long q1), .second, .val (.int p2), .val (.long (2147483639 : Int64)), .second, .val (.long (f0_0 q1 p2)), .second, .unset]) rfl ?_
      exact k
    · rw [show (f0_2 q1 p2) = (f0_1 q1 p2) from if_neg h1] at k
      show Steps p.tables e below (s₁.setTop (mkF m 7 #[.val (.long q1), .second, .val (.int p2), .val (.long (2147483639 : Int64)), .second, .unset, .unset, .unset] [(.int (p2 &&& (1 : Int32)))])) _
      refine XS.ifNo X0.here hx rfl (hb hby at_7) rfl ((if0 _ _).trans (feq h1).1) ?_
      show Steps p.tables e below (s₁.setTop (mkF m 10 #[.val (.long q1), .second, .val (.int p2), .val (.long (2147483639 : Int64)), .second, .unset, .unset, .unset] [])) _
      refine XT.lloadN X0.here hx rfl (hb hby at_10) rfl ?_
      show Steps p.tables e below (s₁.setTop (mkF m 11 #[.val (.long q1), .second, .val (.int p2), .val (.long (2147483639 : Int64)), .second, .unset, .unset, .unset] [(.long (2147483639 : Int64))])) _
      refine XS.iloadN X0.here hx rfl (hb hby at_11) rfl ?_
      show Steps p.tables e below (s₁.setTop (mkF m 12 #[.val (.long q1), .second, .val (.int p2), .val (.long (2147483639 : Int64)), .second, .unset, .unset, .unset] [(.int p2), (.long (2147483639 : Int64))])) _
      refine XS.iconst X0.here hx rfl (hb hby at_12) ?_
      show Steps p.tables e below (s₁.setTop (mkF m 13 #[.val (.long q1), .second, .val (.int p2), .val (.long (2147483639 : Int64)), .second, .unset, .unset, .unset] [(.int (1 : Int32)), (.int p2), (.long (2147483639 : Int64))])) _
      refine XT.iushr X0.here hx rfl (hb hby at_13) rfl ?_
      show Steps p.tables e below (s₁.setTop (mkF m 14 #[.val (.long q1), .second, .val (.int p2), .val (.long (2147483639 : Int64)), .second, .unset, .unset, .unset] [(.int (XT.ushr p2 (1 : Int32))), (.long (2147483639 : Int64))])) _
      refine XS.bipush X0.here hx rfl (hb hby at_14) ?_
      show Steps p.tables e below (s₁.setTop (mkF m 16 #[.val (.long q1), .second, .val (.int p2), .val (.long (2147483639 : Int64)), .second, .unset, .unset, .unset] [(.int (15 : Int32)), (.int (XT.ushr p2 (1 : Int32))), (.long (2147483639 : Int64))])) _
      refine XS.iand X0.here hx rfl (hb hby at_16) rfl ?_
      show Steps p.tables e below (s₁.setTop (mkF m 17 #[.val (.long q1), .second, .val (.int p2), .val (.long (2147483639 : Int64)), .second, .unset, .unset, .unset] [(.int ((XT.ushr p2 (1 : Int32)) &&& (15 : Int32))), (.long (2147483639 : Int64))])) _
      refine XT.i2l X0.here hx rfl (hb hby at_17) rfl ?_
      show Steps p.tables e below (s₁.setTop (mkF m 18 #[.val (.long q1), .second, .val (.int p2), .val (.long (2147483639 : Int64)), .second, .unset, .unset, .unset] [(.long ((XT.ushr p2 (1 : Int32)) &&& (15 : Int32)).toInt64), (.long (2147483639 : Int64))])) _
      refine XT.lsub X0.here hx rfl (hb hby at_18) rfl ?_
      show Steps p.tables e below (s₁.setTop (mkF m 19 #[.val (.long q1), .second, .val (.int p2), .val (.long (2147483639 : Int64)), .second, .unset, .unset, .unset] [(.long (f0_1 q1 p2))])) _
      refine XT.lstore X0.here hx rfl (hb hby at_19) rfl (l' := #[.val (.long q1), .second, .val (.int p2), .val (.long (2147483639 : Int64)), .second, .val (.long (f0_1 q1 p2)), .second, .unset]) rfl ?_
      show Steps p.tables e below (s₁.setTop (mkF m 21 #[.val (.long q1), .second, .val (.int p2), .val (.long (2147483639 : Int64)), .second, .val (.long (f0_1 q1 p2)), .second, .unset] [])) _
      refine XS.goto X0.here hx rfl (pc0 := 21) (pc' := 35) rfl (hb hby at_21) (by decide) (by decide) ?_
      exact k
  obtain ⟨_, _, ⟨T3, L3, k3, n3⟩, -, X3, ⟨Lc3, hQ3, l3, y3, z3⟩, st3⟩ := Jvm.LawKit.callS X0 hx (y := (⟨"com/example/keyprint/keyprint/JsonWriter", "requireLength", "(J)I"⟩ : MethodName)) hown (mvT hZ (hw _ (List.mem_of_getElem? (i := 2) rfl))) (mvT hZ (hw _ (List.mem_of_getElem? (i := 3) rfl))) (mvT hZ (hw _ (List.mem_of_getElem? (i := 4) rfl))) (mvT hZ (hw _ (List.mem_of_getElem? (i := 5) rfl))) (by decide) (backOf (W := 0) (rm1 l Z a0 hw [] (f0_2 q1 p2) h0 n0 Z0 (own_len q1 p2)) hZ (hw _ (List.mem_of_getElem? (i := 5) rfl)) (hw _ (List.mem_of_getElem? (i := 4) rfl)) (by decide) (by decide)) (g := (mkF m 37 #[.val (.long q1), .second, .val (.int p2), .val (.long (2147483639 : Int64)), .second, .val (.long (f0_2 q1 p2)), .second, .unset] [(.long (f0_2 q1 p2))])) rfl (by rw [hml]; rfl) (argsL := [(.long (f0_2 q1 p2))]) (rest := []) (lenOf pd_0 rfl) rfl (by show 2 * 0 + _ ≤ _; exact Nat.le_of_eq rfl) (hb hby at_37) (fun _ _ => ⟨rfl, e0, (by decide : 0 + 0 ≤ _), (by decide : 0 + 0 ≤ _)⟩)
  dsimp only [Pt.U, Pt.locs, Pt.cells, Pt.slots] at X3 l3 y3 z3 st3 hQ3
  subst l3 y3 z3
  obtain ⟨rfl, N3q, e3⟩ := hQ3
  have N3 := Fr.app N0 N3q
  have st5 : ∀ t, Steps p.tables e below (T3.setTop (mkF m 56 #[.val (.long q1), .second, .val (.int p2), .val (.long (2147483639 : Int64)), .second, .val (.long (f0_2 q1 p2)), .second, .val (.int (f1 (f0_2 q1 p2)))] [(.int (f0_3 q1 p2))])) t → Steps p.tables e below (T3.setTop (mkF m 48 #[.val (.long q1), .second, .val (.int p2), .val (.long (2147483639 : Int64)), .second, .val (.long (f0_2 q1 p2)), .second, .val (.int (f1 (f0_2 q1 p2)))] [(.int (XT.cmpL (f1 (f0_2 q1 p2)).toInt64 (f0_2 q1 p2)))])) t := by
    intro t k
    by_cases h4 : (f1 (f0_2 q1 p2)).toInt64 = (f0_2 q1 p2)
    · rw [show (f0_3 q1 p2) = (1 : Int32) from if_pos h4] at k
      show Steps p.tables e below (T3.setTop (mkF m 48 #[.val (.long q1), .second, .val (.int p2), .val (.long (2147483639 : Int64)), .second, .val (.long (f0_2 q1 p2)), .second, .val (.int (f1 (f0_2 q1 p2)))] [(.int (XT.cmpL (f1 (f0_2 q1 p2)).toInt64 (f0_2 q1 p2)))])) _
      refine XS.ifNo X3.here hx rfl (hb hby at_48) rfl ((if0 _ _).trans (teq ((own_ce _ _).mpr h4)).2) ?_
      show Steps p.tables e below (T3.setTop (mkF m 51 #[.val (.long q1), .second, .val (.int p2), .val (.long (2147483639 : Int64)), .second, .val (.long (f0_2 q1 p2)), .second, .val (.int (f1 (f0_2 q1 p2)))] [])) _
      refine XS.iconst X3.here hx rfl (hb hby at_51) ?_
      show Steps p.tables e below (T3.setTop (mkF m 52 #[.val (.long q1), .second, .val (.int p2), .val (.long (2147483639 : Int64)), .second, .val (.long (f0_2 q1 p2)), .second, .val (.int (f1 (f0_2 q1 p2)))] [(.int (1 : Int32))])) _
      refine XS.goto X3.here hx rfl (pc0 := 52) (pc' := 56) rfl (hb hby at_52) (by decide) (by decide) ?_
      exact k
    · rw [show (f0_3 q1 p2) = (0 : Int32) from if_neg h4] at k
      show Steps p.tables e below (T3.setTop (mkF m 48 #[.val (.long q1), .second, .val (.int p2), .val (.long (2147483639 : Int64)), .second, .val (.long (f0_2 q1 p2)), .second, .val (.int (f1 (f0_2 q1 p2)))] [(.int (XT.cmpL (f1 (f0_2 q1 p2)).toInt64 (f0_2 q1 p2)))])) _
      refine XS.ifYes X3.here hx rfl (pc0 := 48) (pc' := 55) rfl (hb hby at_48) rfl ((if0 _ _).trans (feq (mt (own_ce _ _).mp h4)).2) (by decide) (by decide) ?_
      show Steps p.tables e below (T3.setTop (mkF m 55 #[.val (.long q1), .second, .val (.int p2), .val (.long (2147483639 : Int64)), .second, .val (.long (f0_2 q1 p2)), .second, .val (.int (f1 (f0_2 q1 p2)))] [])) _
      refine XS.iconst X3.here hx rfl (hb hby at_55) ?_
      exact k
  obtain ⟨fs, hr, hrun, hended, hW, hsame⟩ := X3.leave (v := some (.int ((f0_3 q1 p2) &&& 1))) (fun h => by rw [Bd.returns] at h; cases h)
  refine ⟨_, _, ?_, hrun, hended, _, _, rfl, ?_, ⟨_, rfl⟩, hW, hsame.mono (by decide) (by decide)⟩
  · show Steps p.tables e below (s₁.setTop (mkF m 0 #[.val (.long q1), .second, .val (.int p2), .unset, .unset, .unset, .unset, .unset] [])) _
    refine X0.ldc2Long hx hown (mvT hZ (hw _ (List.mem_of_getElem? (i := 0) rfl))) (g := (mkF m 0 #[.val (.long q1), .second, .val (.int p2), .unset, .unset, .unset, .unset, .unset] [])) rfl (hb hby at_0) _ ?_
    show Steps p.tables e below (s₁.setTop (mkF m 3 #[.val (.long q1), .second, .val (.int p2), .unset, .unset, .unset, .unset, .unset] [(.long (2147483639 : Int64))])) _
    refine XT.lstoreN X0.here hx rfl (hb hby at_3) rfl (l' := #[.val (.long q1), .second, .val (.int p2), .val (.long (2147483639 : Int64)), .second, .unset, .unset, .unset]) rfl ?_
    show Steps p.tables e below (s₁.setTop (mkF m 4 #[.val (.long q1), .second, .val (.int p2), .val (.long (2147483639 : Int64)), .second, .unset, .unset, .unset] [])) _
    refine XS.iloadN X0.here hx rfl (hb hby at_4) rfl ?_
    show Steps p.tables e below (s₁.setTop (mkF m 5 #[.val (.long q1), .second, .val (.int p2), .val (.long (2147483639 : Int64)), .second, .unset, .unset, .unset] [(.int p2)])) _
    refine XS.iconst X0.here hx rfl (hb hby at_5) ?_
    show Steps p.tables e below (s₁.setTop (mkF m 6 #[.val (.long q1), .second, .val (.int p2), .val (.long (2147483639 : Int64)), .second, .unset, .unset, .unset] [(.int (1 : Int32)), (.int p2)])) _
    refine XS.iand X0.here hx rfl (hb hby at_6) rfl ?_
    show Steps p.tables e below (s₁.setTop (mkF m 7 #[.val (.long q1), .second, .val (.int p2), .val (.long (2147483639 : Int64)), .second, .unset, .unset, .unset] [(.int (p2 &&& (1 : Int32)))])) _
    refine st2 _ ?_
    show Steps p.tables e below (s₁.setTop (mkF m 35 #[.val (.long q1), .second, .val (.int p2), .val (.long (2147483639 : Int64)), .second, .val (.long (f0_2 q1 p2)), .second, .unset] [])) _
    refine XT.lload X0.here hx rfl (hb hby at_35) rfl ?_
    show Steps p.tables e below (s₁.setTop (mkF m 37 #[.val (.long q1), .second, .val (.int p2), .val (.long (2147483639 : Int64)), .second, .val (.long (f0_2 q1 p2)), .second, .unset] [(.long (f0_2 q1 p2))])) _
    refine st3 _ ?_
    show Steps p.tables e below (T3.setTop (mkF m 40 #[.val (.long q1), .second, .val (.int p2), .val (.long (2147483639 : Int64)), .second, .val (.long (f0_2 q1 p2)), .second, .unset] [(.int (f1 (f0_2 q1 p2)))])) _
    refine XS.istore X3.here hx rfl (hb hby at_40) rfl (l' := #[.val (.long q1), .second, .val (.int p2), .val (.long (2147483639 : Int64)), .second, .val (.long (f0_2 q1 p2)), .second, .val (.int (f1 (f0_2 q1 p2)))]) rfl ?_
    show Steps p.tables e below (T3.setTop (mkF m 42 #[.val (.long q1), .second, .val (.int p2), .val (.long (2147483639 : Int64)), .second, .val (.long (f0_2 q1 p2)), .second, .val (.int (f1 (f0_2 q1 p2)))] [])) _
    refine XS.iload X3.here hx rfl (hb hby at_42) rfl ?_
    show Steps p.tables e below (T3.setTop (mkF m 44 #[.val (.long q1), .second, .val (.int p2), .val (.long (2147483639 : Int64)), .second, .val (.long (f0_2 q1 p2)), .second, .val (.int (f1 (f0_2 q1 p2)))] [(.int (f1 (f0_2 q1 p2)))])) _
    refine XT.i2l X3.here hx rfl (hb hby at_44) rfl ?_
    show Steps p.tables e below (T3.setTop (mkF m 45 #[.val (.long q1), .second, .val (.int p2), .val (.long (2147483639 : Int64)), .second, .val (.long (f0_2 q1 p2)), .second, .val (.int (f1 (f0_2 q1 p2)))] [(.long (f1 (f0_2 q1 p2)).toInt64)])) _
    refine XT.lload X3.here hx rfl (hb hby at_45) rfl ?_
    show Steps p.tables e below (T3.setTop (mkF m 47 #[.val (.long q1), .second, .val (.int p2), .val (.long (2147483639 : Int64)), .second, .val (.long (f0_2 q1 p2)), .second, .val (.int (f1 (f0_2 q1 p2)))] [(.long (f0_2 q1 p2)), (.long (f1 (f0_2 q1 p2)).toInt64)])) _
    refine XT.lcmp X3.here hx rfl (hb hby at_47) rfl ?_
    show Steps p.tables e below (T3.setTop (mkF m 48 #[.val (.long q1), .second, .val (.int p2), .val (.long (2147483639 : Int64)), .second, .val (.long (f0_2 q1 p2)), .second, .val (.int (f1 (f0_2 q1 p2)))] [(.int (XT.cmpL (f1 (f0_2 q1 p2)).toInt64 (f0_2 q1 p2)))])) _
    refine st5 _ ?_
    show Steps p.tables e below (T3.setTop (mkF m 56 #[.val (.long q1), .second, .val (.int p2), .val (.long (2147483639 : Int64)), .second, .val (.long (f0_2 q1 p2)), .second, .val (.int (f1 (f0_2 q1 p2)))] [(.int (f0_3 q1 p2))])) _
    exact retN X3 hx (t := .boolean) Bd.returns (by simp) (hb hby at_56) hr
  · show Q0 Z q1 p2 h0 n0 _ T3.heap _
    rw [e3]
    exact ⟨congrArg (fun z => some (Value.int z)) ((show f0 q1 p2 = ((f0_3 q1 p2) &&& 1) from by rfl).symm.trans (own_law q1 p2)), N3⟩
set_option maxRecDepth 65536 in
set_option maxHeartbeats 40000000 in
theorem comes_1 {Post : Tables → Env → Array Value → State → Outcome → State → Prop} (hpost : ∀ tb e args s v u, (limb_1_1.after args s (.returned v) u = true ∧ limb_1_2.after args s (.returned v) u = true ∧ True) → FrameEnd s (.returned v) u (Jvm.fieldLocs frame_1_writes args s ++ Jvm.arrayLocs frame_1_arrays args s ++ Jvm.staticLocs frame_1_statics s) 0 0 → Post tb e args s (.returned v) u) :
    ArmFor flags0 classFile x code maxLocals ret World_1 tables_1 room_1 Calls_1 rest_1 Pre_1 Post := by
  intro l hfl _ _ p e ha hc hk s m args below hf hA hF happ hP
  obtain ⟨hcalls, hrest, hpre⟩ := hP
  obtain ⟨-, -, -, hnamed, -, -, -, hat⟩ := (Spec.applies_iff hf).mp happ
  obtain ⟨hg, hn⟩ := and_e (Cond.before_iff.mp (show (Jvm.Cond.and given_1 narrow_1).before args s = true from hpre))
  obtain ⟨hcnt, hg0⟩ := and_e hg
  obtain ⟨hi0, hg1⟩ := and_e hg0
  obtain ⟨w0, w1, rfl⟩ : ∃ w0 w1 : Value, args = #[w0, w1] := by
    have hs : args.size = 2 := by simpa [Cond.value, given_1] using hcnt
    obtain ⟨L⟩ := args
    match L, hs with
    | [w0, w1], _ => exact ⟨w0, w1, rfl⟩
  have hw := fun d (hd : d ∈ tables_1) => atoms_spec (ws := Jvm.Cond.code x code maxLocals ret :: tables_1) hat d (List.mem_cons_of_mem _ hd)
  have hfit : Fit s := fun {y c} hc i hi => by
    obtain ⟨ha, rfl⟩ := Array.getElem?_eq_some_iff.mp hc
    have q := List.all_eq_true.mp ((Array.all_eq_true_iff_forall_mem.mp hF) _ (Array.getElem_mem ha)) i (List.mem_range.mpr hi)
    simpa [Array.getElem?_eq_getElem hi] using q
  obtain ⟨i0, ei0⟩ := isL_v hi0
  obtain rfl : w0 = (.long i0) := Option.some.inj ei0
  obtain ⟨i1, ei1⟩ := is_v hg1
  obtain rfl : w1 = (.int i1) := Option.some.inj ei1
  obtain ⟨n, o, h1, h2, h3, _, L, rfl, ⟨rfl, N⟩, hq⟩ := rm0 l s _ hw tables_1 i0 i1 s.heap s.heap.size (Nat.le_refl _) p e ha hc hk s m _ below hf ((Spec.applies_iff_loose hf).mp happ).1 ⟨rfl, State.Warmed39.refl s, rfl⟩ trivial
  refine ⟨n, _, h1, h2, h3, hpost _ _ _ _ _ _ ⟨Cond.after_iff.mpr rfl, Cond.after_iff.mpr (eq_i res_at (Term.int_eval (1)) rfl), trivial⟩ ⟨hq.1, hq.2.1, (hq.2.2.sift fun y hy => Or.inr (N y hy)).mono (by decide) (by decide)⟩⟩
theorem main_1_1 : Claimed_1_1 := comes_1 fun _ _ _ _ _ _ h hF => ⟨h.1, hF⟩
theorem main_1_2 : Claimed_1_2 := comes_1 fun _ _ _ _ _ _ h hF => ⟨h.2.1, hF⟩
end Jvm.Pilot.@@N@@
namespace Jvm.Pilot.@@N@@
open Jvm Jvm.ClassFile Sem Op Lib Jvm.Free Jvm.Stand Jvm.Pilot.@@N@@.Jvm.D
/-! MADE BY PROGRAM (witnessworld.py) out of the Statement's table words and the real class files: 9 classes; the members and pool entries that the words name. The judged class is class 1, her method 1. -/
namespace start1
open Jvm.ClassFile
def u (s : String) : CpInfo := .utf8 (stringToUtf16 s)
/-- a pool by its gaps: so many unusable entries, then the entry; so many at the end -/
def gap : Nat → List CpInfo → List CpInfo
  | 0, r => r
  | n + 1, r => .unusable :: gap n r
def poolList (es : List (Nat × CpInfo)) (last : Nat) : List CpInfo := es.foldr (fun e r => gap e.1 (e.2 :: r)) (gap last [])
def pool (es : List (Nat × CpInfo)) (last : Nat) : Array CpInfo := ⟨poolList es last⟩
def fileOf (pool : Array CpInfo) (this : Nat) (attrs : Array Attribute := #[]) (ms : Array MethodInfo := #[]) (fl : Nat := 33) (sup : Nat := 0) (ifs : Array Nat := #[]) (fds : Array FieldInfo := #[]) : ClassFile where
  minorVersion := 0
  majorVersion := 65
  constantPool := pool
  accessFlags := fl
  thisClass := this
  superClass := sup
  interfaces := ifs
  fields := fds
  methods := ms
  attributes := attrs
def plain (name : String) (sup : Option ClassId) : Class where
  name := name
  kind := .ordinary
  loader := none
  accessFlags := 33
  super := sup
  interfaces := #[]
  cf := none
  fields := #[]
  methods := #[]
  instanceTypes := #[]
  staticTypes := #[]
  resolved := #[]
  callSites := []
  init := .initialized
  statics := none
  mirror := none

def pool0 : Array CpInfo := pool [(5, u "<init>"), (0, u "()V"), (1, .class_ 10), (1, u "java/lang/Object")] 113

def k0m0 : Method := { name := "<init>", desc := "()V", sig := { parameters := [], returnType := none }, accessFlags := 1, code := none }
/-- java/lang/Object -/
def k0 : Class := { plain "java/lang/Object" none with
  accessFlags := 33
  interfaces := #[]
  cf := some (fileOf pool0 8 #[] #[{ accessFlags := 1, nameIndex := 5, descriptorIndex := 6, attributes := #[] }] 33 0 #[] #[])
  fields := #[]
  methods := #[k0m0]
  instanceTypes := #[]
  staticTypes := #[]
  resolved := Array.replicate 124 none
  statics := none }

def pool1 : Array CpInfo := pool [(2, .class_ 4), (1, u "java/lang/Object"), (0, u "<init>"), (0, u "()V"), (0, .long 2147483639), (3, .long 9223372036854775807), (1, .methodref 14 15), (0, .class_ 16), (0, .nameAndType 17 18), (0, u "com/example/keyprint/keyprint/JsonWriter"), (0, u "requireLength"), (0, u "(J)I"), (0, .class_ 20), (0, u "com/example/keyprint/keyprint/JsonWriterRequireLengthPinLaw"), (2, u "law"), (0, u "(JI)Z")] 3

def k1m0 : Method := { name := "<init>", desc := "()V", sig := { parameters := [], returnType := none }, accessFlags := 2, code := none }
def k1c1 : Code := { maxStack := 6, maxLocals := 8, code := code, exceptionTable := #[], attributes := #[] }
def k1m1 : Method := { name := "law", desc := "(JI)Z", sig := { parameters := [.long, .int], returnType := some .boolean }, accessFlags := 9, code := some k1c1 }
/-- com/example/keyprint/keyprint/JsonWriterRequireLengthPinLaw -/
def k1 : Class := { plain "com/example/keyprint/keyprint/JsonWriterRequireLengthPinLaw" (some 0) with
  accessFlags := 49
  interfaces := #[]
  cf := some (fileOf pool1 19 #[] #[{ accessFlags := 2, nameIndex := 5, descriptorIndex := 6, attributes := #[] }, { accessFlags := 9, nameIndex := 23, descriptorIndex := 24, attributes := #[] }] 49 2 #[] #[])
  fields := #[]
  methods := #[k1m0, k1m1]
  instanceTypes := #[]
  staticTypes := #[]
  resolved := Array.replicate 28 none
  statics := none }

def pool2 : Array CpInfo := pool [(4, .class_ 6), (1, u "java/lang/Object"), (9, .class_ 18), (1, u "com/example/keyprint/keyprint/JsonWriter"), (0, u "bytes"), (0, u "[B"), (2, u "size"), (0, u "I"), (30, u "ESCAPE"), (30, u "HEX_DIGITS"), (23, u "requireLength"), (0, u "(J)I"), (2, .long 2147483639), (27, u "MAX_LENGTH")] 20

def k2c0 : Code := { maxStack := 4, maxLocals := 2, code := prog_16_method_16_code, exceptionTable := #[], attributes := #[] }
def k2m0 : Method := { name := "requireLength", desc := "(J)I", sig := { parameters := [.long], returnType := some .int }, accessFlags := 8, code := some k2c0 }
/-- com/example/keyprint/keyprint/JsonWriter -/
def k2 : Class := { plain "com/example/keyprint/keyprint/JsonWriter" (some 0) with
  accessFlags := 48
  interfaces := #[]
  cf := some (fileOf pool2 16 #[] #[{ accessFlags := 8, nameIndex := 110, descriptorIndex := 111, attributes := #[] }] 48 4 #[] #[{ accessFlags := 26, nameIndex := 86, descriptorIndex := 20, attributes := #[] }, { accessFlags := 26, nameIndex := 142, descriptorIndex := 24, attributes := #[] }, { accessFlags := 26, nameIndex := 55, descriptorIndex := 20, attributes := #[] }, { accessFlags := 2, nameIndex := 19, descriptorIndex := 20, attributes := #[] }, { accessFlags := 2, nameIndex := 23, descriptorIndex := 24, attributes := #[] }])
  fields := #[{ name := "HEX_DIGITS", type := (.array .byte), accessFlags := 26, slot := 0, constantValue := 0 }, { name := "MAX_LENGTH", type := .int, accessFlags := 26, slot := 1, constantValue := 0 }, { name := "ESCAPE", type := (.array .byte), accessFlags := 26, slot := 2, constantValue := 0 }, { name := "bytes", type := (.array .byte), accessFlags := 2, slot := 0, constantValue := 0 }, { name := "size", type := .int, accessFlags := 2, slot := 1, constantValue := 0 }]
  methods := #[k2m0]
  instanceTypes := #[(.array .byte), .int]
  staticTypes := #[(.array .byte), .int, (.array .byte)]
  resolved := Array.replicate 163 none
  statics := none }

def pool3 : Array CpInfo := pool [(1, u "java/lang/Cloneable"), (0, .class_ 1), (0, u "java/lang/Object"), (0, .class_ 3)] 3

/-- java/lang/Cloneable -/
def k3 : Class := { plain "java/lang/Cloneable" (some 0) with
  accessFlags := 1537
  interfaces := #[]
  cf := some (fileOf pool3 2 #[] #[] 1537 4 #[] #[])
  fields := #[]
  methods := #[]
  instanceTypes := #[]
  staticTypes := #[]
  resolved := Array.replicate 8 none
  statics := none }

def pool4 : Array CpInfo := pool [(1, u "java/io/Serializable"), (0, .class_ 1), (0, u "java/lang/Object"), (0, .class_ 3)] 3

/-- java/io/Serializable -/
def k4 : Class := { plain "java/io/Serializable" (some 0) with
  accessFlags := 1537
  interfaces := #[]
  cf := some (fileOf pool4 2 #[] #[] 1537 4 #[] #[])
  fields := #[]
  methods := #[]
  instanceTypes := #[]
  staticTypes := #[]
  resolved := Array.replicate 8 none
  statics := none }

/-- the primitive byte -/
def k5 : Class := { plain "byte" none with kind := .primitive 'B', accessFlags := 0x411 }
/-- [B -/
def k6 : Class := { plain "[B" (some 0) with kind := .array 5 .byte, interfaces := #[3, 4], accessFlags := 1041 }

/-- the primitive int -/
def k7 : Class := { plain "int" none with kind := .primitive 'I', accessFlags := 0x411 }
/-- [I -/
def k8 : Class := { plain "[I" (some 0) with kind := .array 7 .int, interfaces := #[3, 4], accessFlags := 1041 }

def heap : Heap := #[]
def classes : Array Class := #[k0, k1, k2, k3, k4, k5, k6, k7, k8]
def interned : List (Array UInt16 × Addr) := []
def slotsUsed : Nat := 0
def theMethod : MethodId := ⟨1, 1⟩
def args0 : Array Value := #[.long 5, .int 7]
def aboutOver (below : List Frame) : State where
  vm := { classes := classes, interned := interned.toArray }
  heap := heap
  slotsUsed := slotsUsed
  threads := #[{ frames := .invoking theMethod args0 :: below }]
def below0 : List Frame := [.native { method := ⟨0, 0⟩, args := #[] }]
def about1 : State := aboutOver below0
def p0 : Program := .bare "" "" ""
def e0 : Env := launch0.env 0 0 0
theorem w_frames : about1.frames = Frame.invoking theMethod args0 :: below0 := rfl
set_option maxRecDepth 65536 in
theorem w_args : argsFit about1.vm theMethod args0 = true := by decide +kernel
set_option maxRecDepth 65536 in
theorem w_heap : heapFits about1 = true := by decide +kernel
set_option maxRecDepth 65536 in
theorem w_runnable : about1.curStatus? = some .runnable := by decide +kernel
set_option maxRecDepth 65536 in
theorem w_alone : about1.alone = true := by decide +kernel
set_option maxRecDepth 65536 in
theorem w_named : about1.methodNamed? x = some theMethod := by decide +kernel
set_option maxRecDepth 65536 in
theorem w_hears : about1.hears theMethod below0 = true := by decide +kernel
set_option maxRecDepth 65536 in
theorem w_ripe : about1.ripe theMethod args0 below0 = true := by decide +kernel
theorem w_running : about1.status = .running := rfl
set_option maxRecDepth 65536 in
theorem w_room : about1.hasRoom e0.platform room_1 = true :=
  launch0.hasRoom_least _ room_1 (by decide +kernel) (by decide +kernel) (by decide +kernel) (by decide +kernel) (by decide +kernel) (by decide +kernel)
theorem allAtoms_all (ts : List Jvm.Cond) (a : Array Jvm.Value) (st : Jvm.State) : (allAtoms ts).before a st = ts.all (fun c => c.before a st) := by
  induction ts with
  | nil => rfl
  | cons c t ih =>
    show (Jvm.Cond.and c (allAtoms t)).before a st = _
    rw [Jvm.Cond.before_and, ih, List.all_cons]
def words1 : List Jvm.Cond := Jvm.Cond.code x code maxLocals ret :: tables_1
/-- a 'code' word, met by the world's own term for the bytes: nothing is compared byte by byte -/
theorem code_word {y : MethodName} {bytes : ByteArray} {mx : Nat} {rt : Option FieldType} {a : Array Value} {s : State} {m : MethodId} {meth : Method} {c : Code} (h1 : s.methodNamed? y = some m) (h2 : s.vm.method? m = some meth) (h3 : meth.code = some c) (h4 : c.code = bytes)
    (h5 : (c.maxLocals == mx && c.exceptionTable.isEmpty && decide (c.maxStack ≤ mostOperands) && decide (meth.sig.returnType = rt) && !meth.locks && decide (parseMethodDescriptor y.desc = some meth.sig)) = true) : (Jvm.Cond.code y bytes mx rt).before a s = true := by
  simp only [Bool.and_eq_true, beq_iff_eq, Bool.not_eq_true', decide_eq_true_eq] at h5
  obtain ⟨⟨⟨⟨⟨g1, g2⟩, g3⟩, g4⟩, g5⟩, g6⟩ := h5
  simp [Cond.before, Cond.holds, Cond.value, h1, h2, h3, h4, g1, g2, g3, g4, g5, g6]
def isCode : Jvm.Cond → Bool
  | .code _ _ _ _ => true
  | _ => false
theorem all_split {L : List Jvm.Cond} {P : Jvm.Cond → Bool} (h1 : L.all (fun c => isCode c || P c) = true) (h2 : ∀ c ∈ L.filter isCode, P c = true) : L.all P = true := by
  refine List.all_eq_true.mpr fun c hc => ?_
  have h := List.all_eq_true.mp h1 c hc
  rcases Bool.eq_false_or_eq_true (isCode c) with hi | hi
  · exact h2 c (List.mem_filter.mpr ⟨hc, hi⟩)
  · simpa [hi] using h
set_option maxRecDepth 65536 in
theorem w_c0 : (Jvm.Cond.code x code maxLocals ret).before args0 about1 = true := code_word (m := ⟨1, 1⟩) (meth := k1m1) (c := k1c1) (by decide +kernel) rfl rfl rfl (by decide +kernel)
set_option maxRecDepth 65536 in
theorem w_c1 : (Jvm.Cond.code ({ cls := "com/example/keyprint/keyprint/JsonWriter", name := "requireLength", desc := "(J)I" } : Jvm.MethodName) prog_16_method_16_code (2 : Nat) (Option.some Jvm.ClassFile.FieldType.int)).before args0 about1 = true := code_word (m := ⟨2, 0⟩) (meth := k2m0) (c := k2c0) (by decide +kernel) rfl rfl rfl (by decide +kernel)
def codes1 : List Jvm.Cond := [Jvm.Cond.code x code maxLocals ret, Jvm.Cond.code ({ cls := "com/example/keyprint/keyprint/JsonWriter", name := "requireLength", desc := "(J)I" } : Jvm.MethodName) prog_16_method_16_code (2 : Nat) (Option.some Jvm.ClassFile.FieldType.int)]
set_option maxRecDepth 65536 in
theorem codes_eq : words1.filter isCode = codes1 := rfl
theorem w_codes : ∀ c ∈ words1.filter isCode, c.before args0 about1 = true := by
  rw [codes_eq]
  intro c hc
  simp only [codes1, List.mem_cons, List.not_mem_nil, or_false] at hc
  rcases hc with rfl | rfl
  · exact w_c0
  · exact w_c1
set_option maxRecDepth 65536 in
theorem w_t1 : words1.all (fun c => isCode c || c.before args0 about1) = true := by decide +kernel
theorem w_tables : (allAtoms (Jvm.Cond.code x code maxLocals ret :: tables_1)).before args0 about1 = true := by
  rw [allAtoms_all]
  show words1.all (fun c => c.before args0 about1) = true
  refine all_split ?_ w_codes
  rw [w_t1]
set_option maxRecDepth 65536 in
theorem w_case : (Jvm.Cond.and given_1 narrow_1).before args0 about1 = true := by decide +kernel
theorem w_applies : (headSpec (Jvm.Cond.code x code maxLocals ret :: tables_1) room_1).applies x e0.platform about1 = true :=
  (Spec.applies_iff w_frames).mpr ⟨w_running, w_runnable, w_alone, w_named, w_hears, w_ripe, w_room, w_tables⟩
theorem atStart : AtStart classFile x code maxLocals ret World_1 tables_1 room_1 Calls_1 rest_1 Pre_1 launch0 p0 e0 about1 theMethod args0 below0 :=
  ⟨lists_1, trivial, launch0.admits_env _ _ _, launch0.least_env, fairChoices_fair.cas, fairChoices_fair.clock, w_frames, w_args, w_heap, w_applies, trivial, trivial, w_case⟩
end start1
theorem witness_1 : WitnessClaimed_1 := ⟨start1.p0, start1.e0, start1.about1, start1.theMethod, start1.args0, start1.below0, start1.atStart⟩
end Jvm.Pilot.@@N@@
