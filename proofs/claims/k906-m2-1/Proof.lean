import JvmDerived
import JvmDerived.Pilot.@@N@@Statement
import JvmDerived.Pilot.@@N@@Code
set_option linter.unusedVariables false
set_option linter.unusedSimpArgs false
namespace Jvm.RoadKit
open Sem ClassFile Op Lib Jvm.Stand Jvm.Free Jvm.LawKit
section New
variable {p : Program} {l : Launch} {e : Env} {R : Room} {s : State} {m : MethodId} {args : Array Value} {below : List Frame} {meth : Method} {c : Code} {T : State} {locs : List Loc} {cells slots : Nat}
theorem retI (X : Stand p l e R s m args below meth c T locs cells slots) (hx : p.tables.exec = Jvm.exec) {pc : Nat} {Ls : Array Slot} {z : Int32} {rest : List Value} (hret : meth.sig.returnType = some .int) (hd : decode c.code pc = .ok (.ireturn, 1)) {fs : List Frame}
    (hl : ∀ (f : JFrame) (acts : List Action), f.method = m → f.locked = none → f.entered = [] → (doReturn e (T.setTop f) acts (some (.int z))).1 = T.setFrames fs) : Steps p.tables e below (T.setTop (mkF m pc Ls (.int z :: rest))) (T.setFrames fs) := by
  have hm' : T.vm.method? m = some meth := X.method'
  have hn : narrow .int (.int z) = .int z := rfl
  show Steps p.tables e below (T.setTop { method := m, pc := pc, locals := Ls, stack := _ :: rest, locked := none }) _
  jvm_step X.here [X.here.top, hx, hd, hm', hret, hn]
  first | (intro acts; rw [hl _ acts rfl rfl rfl]) | rw [hl _ _ rfl rfl rfl]
  exact Steps.refl _
end New
end Jvm.RoadKit
namespace Jvm.Pilot.@@N@@
open Jvm Jvm.ClassFile Sem Op Lib Jvm.Free Jvm.Stand Jvm.LawKit Jvm.RoadKit Bundle Jvm.Pilot.@@N@@.Jvm.D
def f2 (p1 : Int32) : Int64 := (if p1 = (0 : Int32) then (0 : Int64) else (1 : Int64))
def f1_0 (p1 : Int32) (p2 : Int32) (p3 : Int32) (p4 : Int32) : Int32 := (if p2 = (0 : Int32) then (0 : Int32) else (if p3 = (0 : Int32) then (0 : Int32) else (1 : Int32)))
def f1_1 (p1 : Int32) (p2 : Int32) (p3 : Int32) (p4 : Int32) : Int32 := (if p3 = (0 : Int32) then (if p4 = (0 : Int32) then (0 : Int32) else (1 : Int32)) else (0 : Int32))
def f1_2 (p1 : Int32) (p2 : Int32) (p3 : Int32) (p4 : Int32) : Int32 := (if p2 = (0 : Int32) then (0 : Int32) else (f1_1 p1 p2 p3 p4))
def f6 (u1 : Int64) (u2 : Int64) (u3 : Int64) (u4 : Int64) : Int64 := u1
def f8 (u1 : Int64) (u2 : Int64) (u3 : Int64) (u4 : Int64) : Int64 := u2
def f9 (u1 : Int64) (u2 : Int64) (u3 : Int64) (u4 : Int64) : Int64 := u3
def f10 (u1 : Int64) (u2 : Int64) (u3 : Int64) (u4 : Int64) : Int64 := u4
def f7 (q1 : Int64) (p2 : Int32) : Int32 := (if p2 = (0 : Int32) then ((if q1 = (0 : Int64) then (1 : Int32) else (0 : Int32)) &&& 1) else ((if q1 = (1 : Int64) then (1 : Int32) else (0 : Int32)) &&& 1))
def f0_0 (p1 : Int32) : Int32 := (if (p1 &&& (1 : Int32)) = (0 : Int32) then (0 : Int32) else (1 : Int32))
def f0_1 (p1 : Int32) : Int32 := (if (p1 &&& (2 : Int32)) = (0 : Int32) then (0 : Int32) else (1 : Int32))
def f0_2 (p1 : Int32) : Int32 := (if (p1 &&& (4 : Int32)) = (0 : Int32) then (0 : Int32) else (1 : Int32))
def f0_3 (p1 : Int32) : Int32 := (if (p1 &&& (8 : Int32)) = (0 : Int32) then (0 : Int32) else (1 : Int32))
def f0_4 (p1 : Int32) : Int64 := (f6 (f2 (f0_0 p1)) (f2 (f0_1 p1)) (f2 (f1_0 (f0_0 p1) (f0_1 p1) (f0_2 p1) (f0_3 p1))) (f2 (f1_2 (f0_0 p1) (f0_1 p1) (f0_2 p1) (f0_3 p1))))
def f0_5 (p1 : Int32) : Int64 := (f8 (f2 (f0_0 p1)) (f2 (f0_1 p1)) (f2 (f1_0 (f0_0 p1) (f0_1 p1) (f0_2 p1) (f0_3 p1))) (f2 (f1_2 (f0_0 p1) (f0_1 p1) (f0_2 p1) (f0_3 p1))))
def f0_6 (p1 : Int32) : Int64 := (f9 (f2 (f0_0 p1)) (f2 (f0_1 p1)) (f2 (f1_0 (f0_0 p1) (f0_1 p1) (f0_2 p1) (f0_3 p1))) (f2 (f1_2 (f0_0 p1) (f0_1 p1) (f0_2 p1) (f0_3 p1))))
def f0_7 (p1 : Int32) : Int32 := (if (f0_2 p1) = (0 : Int32) then (0 : Int32) else (1 : Int32))
def f0_8 (p1 : Int32) : Int32 := (f7 (f0_6 p1) (if (f0_1 p1) = (0 : Int32) then (0 : Int32) else (f0_7 p1)))
def f0_9 (p1 : Int32) : Int64 := (f10 (f2 (f0_0 p1)) (f2 (f0_1 p1)) (f2 (f1_0 (f0_0 p1) (f0_1 p1) (f0_2 p1) (f0_3 p1))) (f2 (f1_2 (f0_0 p1) (f0_1 p1) (f0_2 p1) (f0_3 p1))))
def f0_10 (p1 : Int32) : Int32 := (if (f0_3 p1) = (0 : Int32) then (0 : Int32) else (1 : Int32))
def f0_11 (p1 : Int32) : Int32 := (if (f0_2 p1) = (0 : Int32) then (f0_10 p1) else (0 : Int32))
def f0_12 (p1 : Int32) : Int32 := (if (f0_1 p1) = (0 : Int32) then (0 : Int32) else (f0_11 p1))
def f0_13 (p1 : Int32) : Int32 := (if (f7 (f0_9 p1) (f0_12 p1)) = (0 : Int32) then (0 : Int32) else (1 : Int32))
def f0_14 (p1 : Int32) : Int32 := (if (f0_8 p1) = (0 : Int32) then (0 : Int32) else (f0_13 p1))
def f0_15 (p1 : Int32) : Int32 := (if (f7 (f0_5 p1) (f0_1 p1)) = (0 : Int32) then (0 : Int32) else (f0_14 p1))
def f0_16 (p1 : Int32) : Int32 := (if (f7 (f0_4 p1) (f0_0 p1)) = (0 : Int32) then (0 : Int32) else (f0_15 p1))
def f0 (p1 : Int32) : Int32 := ((f0_16 p1) &&& 1)
theorem own_bit (p m : Int32) (v : Int32) (h : v = (if (p &&& m) = (0 : Int32) then (0 : Int32) else (1 : Int32))) : v = 0 ∨ v = 1 := by
  rw [h]; split
  · exact Or.inl rfl
  · exact Or.inr rfl
theorem own_law (p1 : Int32) : f0 p1 = 1 := by
  have b0 : f0_0 p1 = 0 ∨ f0_0 p1 = 1 := own_bit p1 1 _ rfl
  have b1 : f0_1 p1 = 0 ∨ f0_1 p1 = 1 := own_bit p1 2 _ rfl
  have b2 : f0_2 p1 = 0 ∨ f0_2 p1 = 1 := own_bit p1 4 _ rfl
  have b3 : f0_3 p1 = 0 ∨ f0_3 p1 = 1 := own_bit p1 8 _ rfl
  rw [f0, f0_16, f0_15, f0_14, f0_13, f0_12, f0_11, f0_10, f0_9, f0_8, f0_7, f0_6, f0_5, f0_4]
  generalize f0_0 p1 = a at *
  generalize f0_1 p1 = b at *
  generalize f0_2 p1 = c at *
  generalize f0_3 p1 = d at *
  rcases b0 with rfl | rfl <;> rcases b1 with rfl | rfl <;> rcases b2 with rfl | rfl <;> rcases b3 with rfl | rfl <;> decide +kernel

abbrev own_G (tb : Tables) (e : Env) (below : List Frame) (Q : Outcome → State → Prop) (A : State) : Prop := ∃ s₂ o, Steps tb e below A s₂ ∧ s₂.status = .running ∧ Ended s₂ below o ∧ Q o s₂
theorem own_step {tb : Tables} {e : Env} {below : List Frame} {Q : Outcome → State → Prop} {A B : State} (h : ∀ t, Steps tb e below B t → Steps tb e below A t) (g : own_G tb e below Q B) : own_G tb e below Q A := by
  obtain ⟨s2, o, h1, h2⟩ := g
  exact ⟨s2, o, h _ h1, h2⟩
theorem own_aT {x y : Addr} (h : x = y) : XT.acmp .eq (.ref x) (.ref y) = true ∧ XT.acmp .ne (.ref x) (.ref y) = false := by subst h; exact ⟨by simp [XT.acmp], by simp [XT.acmp]⟩
theorem own_aF {x y : Addr} (h : ¬ x = y) : XT.acmp .eq (.ref x) (.ref y) = false ∧ XT.acmp .ne (.ref x) (.ref y) = true := by simp [XT.acmp, h]
theorem own_cl (x y : Int64) : XT.cmpL x y < 0 ↔ x < y := lw_lt x y
theorem own_cg (x y : Int64) : 0 < XT.cmpL x y ↔ y < x := lw_gt x y
theorem own_ce (x y : Int64) : XT.cmpL x y = 0 ↔ x = y := lw_eq x y
theorem pd_0 : parseMethodDescriptor "()V" = some ⟨[], none⟩ := by decide +kernel
theorem pd_1 : parseMethodDescriptor "(Z)J" = some ⟨[.boolean], some .long⟩ := by decide +kernel
theorem pd_2 : parseMethodDescriptor "(JJJJ)V" = some ⟨[.long, .long, .long, .long], none⟩ := by decide +kernel
theorem pd_3 : parseMethodDescriptor "(ZZZZ)Lcom/example/medspan/medspan/ProportionCounts;" = some ⟨[.boolean, .boolean, .boolean, .boolean], some (.object "com/example/medspan/medspan/ProportionCounts")⟩ := by decide +kernel
theorem pd_4 : parseMethodDescriptor "()J" = some ⟨[], some .long⟩ := by decide +kernel
theorem pd_5 : parseMethodDescriptor "(JZ)Z" = some ⟨[.long, .boolean], some .boolean⟩ := by decide +kernel
theorem d2_0 : decode prog_26_method_3_code 0 = .ok (.iload_n 0, 1) := by decide +kernel
theorem d2_1 : decode prog_26_method_3_code 1 = .ok (.ifCond .eq 7, 3) := by decide +kernel
theorem d2_4 : decode prog_26_method_3_code 4 = .ok (.lconst 1, 1) := by decide +kernel
theorem d2_5 : decode prog_26_method_3_code 5 = .ok (.goto 4, 3) := by decide +kernel
theorem d2_8 : decode prog_26_method_3_code 8 = .ok (.lconst 0, 1) := by decide +kernel
theorem d2_9 : decode prog_26_method_3_code 9 = .ok (.lreturn, 1) := by decide +kernel
theorem pn_2 : plainName "com/example/medspan/medspan/ProportionCounts" = true := by first | (simp [plainName, overriddenIn]; done) | decide +kernel
theorem ef_2 (m : MethodId) (p1 : Int32) : entryFrame m #[(.int p1)] 1 = mkF m 0 #[.val (.int p1)] [] := by first | (simp [entryFrame, mkF, argsToLocals, Value.category]; done) | rfl
def Q2 (Z : State) (p1 : Int32) (h0 : Heap) (n0 : Nat) (v : Option Value) (h : Heap) (L : List Loc) : Prop := v = some (.long (f2 p1)) ∧ Fr n0 L ∧ h = h0
set_option maxRecDepth 65536 in
set_option maxHeartbeats 40000000 in
theorem rm2 (l : Launch) (Z : State) (a0 : Array Value) (hw : ∀ d ∈ tables_1, d.before a0 Z = true) (ws : List Jvm.Cond) (p1 : Int32) (h0 : Heap) (n0 : Nat) (Z0 : n0 ≤ h0.size) :
    MetFree l (⟨"com/example/medspan/medspan/ProportionCounts", "count", "(Z)J"⟩ : MethodName) (head1 (Jvm.Cond.code (⟨"com/example/medspan/medspan/ProportionCounts", "count", "(Z)J"⟩ : MethodName) prog_26_method_3_code 1 (some .long) :: ws) ({ frames := 0, cells := 0, slots := 0, locals := 0 } : Room)) (fun a U => a = #[(.int p1)] ∧ Z.Warmed39 U.vm ∧ U.heap = h0) (fun _ _ _ _ _ => True) (fun _ U o U' => ∃ v L, o = .returned v ∧ Q2 Z p1 h0 n0 v U'.heap L ∧ FrameEnd U o U' L ({ frames := 0, cells := 0, slots := 0, locals := 0 } : Room).cells ({ frames := 0, cells := 0, slots := 0, locals := 0 } : Room).slots) := by
  refine MetFree.of_bodySF (plainFor_of_name pn_2) hisR ?_
  intro p e s m args below meth c s₁ Bd hml0 hP hK
  obtain ⟨rfl, hZ, hh⟩ := hP
  have hx := Bd.exec
  have hby := Bd.bytes
  have hml : c.maxLocals = 1 := hml0
  have hown : s.vm.findClass "com/example/medspan/medspan/ProportionCounts" = some m.cls := findClass_of_methodNamed Bd.named
  have hnm := (name_of_methodNamed Bd.named Bd.method).1
  have X0 : Stand p l e ({ frames := 0, cells := 0, slots := 0, locals := 0 } : Room) s m #[(.int p1)] below meth c s₁ [] 0 0 := Stand.of_body Bd
  have e0 : s₁.heap = h0 := by rw [← hh, Bd.state]; rfl
  have N0 := Fr.nil n0
  have pre0 : ∀ t, Steps p.tables e below (s₁.setTop (mkF m 0 #[.val (.int p1)] [])) t → Steps p.tables e below (s₁.setTop (entryFrame m #[(.int p1)] 1)) t := fun t k => castTop (ef_2 m p1) k
  refine own_step (Q := fun o U' => ∃ v L, o = .returned v ∧ Q2 Z p1 h0 n0 v U'.heap L ∧ FrameEnd s o U' L ({ frames := 0, cells := 0, slots := 0, locals := 0 } : Room).cells ({ frames := 0, cells := 0, slots := 0, locals := 0 } : Room).slots) pre0 ?_
  have st2 : ∀ t, Steps p.tables e below (s₁.setTop (mkF m 9 #[.val (.int p1)] [(.long (if p1 = (0 : Int32) then (0 : Int64) else (1 : Int64)))])) t → Steps p.tables e below (s₁.setTop (mkF m 1 #[.val (.int p1)] [(.int p1)])) t := by
    intro t k
    by_cases h1 : p1 = (0 : Int32)
    · rw [show (if p1 = (0 : Int32) then (0 : Int64) else (1 : Int64)) = (0 : Int64) from if_pos h1] at k
      show Steps p.tables e below (s₁.setTop (mkF m 1 #[.val (.int p1)] [(.int p1)])) _
      refine XS.ifYes X0.here hx rfl (pc0 := 1) (pc' := 8) rfl (hb hby d2_1) rfl ((if0 _ _).trans (teq h1).1) (by decide) (by decide) ?_
      show Steps p.tables e below (s₁.setTop (mkF m 8 #[.val (.int p1)] [])) _
      refine XT.lconst X0.here hx rfl (hb hby d2_8) ?_
      exact k
    · rw [show (if p1 = (0 : Int32) then (0 : Int64) else (1 : Int64)) = (1 : Int64) from if_neg h1] at k
      show Steps p.tables e below (s₁.setTop (mkF m 1 #[.val (.int p1)] [(.int p1)])) _
      refine XS.ifNo X0.here hx rfl (hb hby d2_1) rfl ((if0 _ _).trans (feq h1).1) ?_
      show Steps p.tables e below (s₁.setTop (mkF m 4 #[.val (.int p1)] [])) _
      refine XT.lconst X0.here hx rfl (hb hby d2_4) ?_
      show Steps p.tables e below (s₁.setTop (mkF m 5 #[.val (.int p1)] [(.long (1 : Int64))])) _
      refine XS.goto X0.here hx rfl (pc0 := 5) (pc' := 9) rfl (hb hby d2_5) (by decide) (by decide) ?_
      exact k
  obtain ⟨fs, hr, hrun, hended, hW, hsame⟩ := X0.leave (v := some (.long (if p1 = (0 : Int32) then (0 : Int64) else (1 : Int64)))) (fun h => by rw [Bd.returns] at h; cases h)
  refine ⟨_, _, ?_, hrun, hended, _, _, rfl, ?_, ⟨_, rfl⟩, hW, hsame.mono (by decide) (by decide)⟩
  · show Steps p.tables e below (s₁.setTop (mkF m 0 #[.val (.int p1)] [])) _
    refine XS.iloadN X0.here hx rfl (hb hby d2_0) rfl ?_
    show Steps p.tables e below (s₁.setTop (mkF m 1 #[.val (.int p1)] [(.int p1)])) _
    refine st2 _ ?_
    show Steps p.tables e below (s₁.setTop (mkF m 9 #[.val (.int p1)] [(.long (if p1 = (0 : Int32) then (0 : Int64) else (1 : Int64)))])) _
    jvm_step X0.here [X0.here.top, hx, (hb hby d2_9), X0.method', Bd.returns, narrow]
    first | (intro acts; rw [hr _ acts rfl rfl rfl]) | rw [hr _ _ rfl rfl rfl]
    exact Steps.refl _
  · show Q2 Z p1 h0 n0 _ s₁.heap _
    rw [e0]
    have hf : f2 p1 = (if p1 = (0 : Int32) then (0 : Int64) else (1 : Int64)) := rfl
    exact ⟨by rw [hf], N0, rfl⟩
theorem d4_0 : decode jdk_30_method_1_code 0 = .ok (.aload_n 0, 1) := by decide +kernel
theorem d4_1 : decode jdk_30_method_1_code 1 = .ok (.invokespecial 1, 3) := by decide +kernel
theorem d4_4 : decode jdk_30_method_1_code 4 = .ok (.return_, 1) := by decide +kernel
theorem pn_4 : plainName "java/lang/Record" = true := by first | (simp [plainName, overriddenIn]; done) | decide +kernel
theorem ef_4 (m : MethodId) (a1 : Addr) : entryFrame m #[(.ref a1)] 1 = mkF m 0 #[.val (.ref a1)] [] := by first | (simp [entryFrame, mkF, argsToLocals, Value.category]; done) | rfl
def Q4 (Z : State) (a1 : Addr) (h0 : Heap) (n0 : Nat) (v : Option Value) (h : Heap) (L : List Loc) : Prop := v = none ∧ Fr n0 L ∧ Keep h0 h []
set_option maxRecDepth 65536 in
set_option maxHeartbeats 40000000 in
theorem rm4 (l : Launch) (Z : State) (a0 : Array Value) (hw : ∀ d ∈ tables_1, d.before a0 Z = true) (ws : List Jvm.Cond) (a1 : Addr) (h0 : Heap) (n0 : Nat) (Z0 : n0 ≤ h0.size) :
    MetFree l (⟨"java/lang/Record", "<init>", "()V"⟩ : MethodName) (head1 (Jvm.Cond.code (⟨"java/lang/Record", "<init>", "()V"⟩ : MethodName) jdk_30_method_1_code 1 none :: ws) ({ frames := 1, cells := 0, slots := 0, locals := 12 } : Room)) (fun a U => a = #[(.ref a1)] ∧ Z.Warmed39 U.vm ∧ U.heap = h0) (fun _ _ _ _ _ => True) (fun _ U o U' => ∃ v L, o = .returned v ∧ Q4 Z a1 h0 n0 v U'.heap L ∧ FrameEnd U o U' L ({ frames := 1, cells := 0, slots := 0, locals := 12 } : Room).cells ({ frames := 1, cells := 0, slots := 0, locals := 12 } : Room).slots) := by
  refine MetFree.of_bodySF (plainFor_of_name pn_4) hisR ?_
  intro p e s m args below meth c s₁ Bd hml0 hP hK
  obtain ⟨rfl, hZ, hh⟩ := hP
  have hx := Bd.exec
  have hby := Bd.bytes
  have hml : c.maxLocals = 1 := hml0
  have hown : s.vm.findClass "java/lang/Record" = some m.cls := findClass_of_methodNamed Bd.named
  have hnm := (name_of_methodNamed Bd.named Bd.method).1
  have X0 : Stand p l e ({ frames := 1, cells := 0, slots := 0, locals := 12 } : Room) s m #[(.ref a1)] below meth c s₁ [] 0 0 := Stand.of_body Bd
  have e0 : s₁.heap = h0 := by rw [← hh, Bd.state]; rfl
  have N0 := Fr.nil n0
  have pre0 : ∀ t, Steps p.tables e below (s₁.setTop (mkF m 0 #[.val (.ref a1)] [])) t → Steps p.tables e below (s₁.setTop (entryFrame m #[(.ref a1)] 1)) t := fun t k => castTop (ef_4 m a1) k
  refine own_step (Q := fun o U' => ∃ v L, o = .returned v ∧ Q4 Z a1 h0 n0 v U'.heap L ∧ FrameEnd s o U' L ({ frames := 1, cells := 0, slots := 0, locals := 12 } : Room).cells ({ frames := 1, cells := 0, slots := 0, locals := 12 } : Room).slots) pre0 ?_
  have K0 : Keep h0 h0 [] := Keep.refl h0 []
  obtain ⟨T1, X1, e1, st1⟩ := initO X0 hx hZ hown (hw _ (List.mem_of_getElem? (i := 17) rfl)) (hw _ (List.mem_of_getElem? (i := 18) rfl)) (hw _ (List.mem_of_getElem? (i := 19) rfl)) e0 (g := (mkF m 1 #[.val (.ref a1)] [(.ref a1)])) rfl (by rw [hml]; rfl) rfl (hb hby d4_1) (by decide) (W := 0) (by show 2 * 0 + _ ≤ _; exact Nat.le_of_eq rfl) (by decide)
  obtain ⟨fs, hr, hrun, hended, hW, hsame⟩ := X1.leave (v := none) (fun _ => rfl)
  refine ⟨_, _, ?_, hrun, hended, _, _, rfl, ?_, ⟨_, rfl⟩, hW, hsame.mono (by decide) (by decide)⟩
  · show Steps p.tables e below (s₁.setTop (mkF m 0 #[.val (.ref a1)] [])) _
    refine XS.aloadN X0.here hx rfl (hb hby d4_0) rfl rfl ?_
    show Steps p.tables e below (s₁.setTop (mkF m 1 #[.val (.ref a1)] [(.ref a1)])) _
    refine st1 _ ?_
    show Steps p.tables e below (T1.setTop (mkF m 4 #[.val (.ref a1)] [])) _
    exact X1.returnOut hx Bd.returns (hb hby d4_4) hr
  · show Q4 Z a1 h0 n0 _ T1.heap _
    rw [e1]
    exact ⟨rfl, N0, K0⟩
theorem d3_0 : decode prog_26_method_1_code 0 = .ok (.aload_n 0, 1) := by decide +kernel
theorem d3_1 : decode prog_26_method_1_code 1 = .ok (.invokespecial 1, 3) := by decide +kernel
theorem d3_4 : decode prog_26_method_1_code 4 = .ok (.aload_n 0, 1) := by decide +kernel
theorem d3_5 : decode prog_26_method_1_code 5 = .ok (.lload_n 1, 1) := by decide +kernel
theorem d3_6 : decode prog_26_method_1_code 6 = .ok (.putfield 7, 3) := by decide +kernel
theorem d3_9 : decode prog_26_method_1_code 9 = .ok (.aload_n 0, 1) := by decide +kernel
theorem d3_10 : decode prog_26_method_1_code 10 = .ok (.lload_n 3, 1) := by decide +kernel
theorem d3_11 : decode prog_26_method_1_code 11 = .ok (.putfield 13, 3) := by decide +kernel
theorem d3_14 : decode prog_26_method_1_code 14 = .ok (.aload_n 0, 1) := by decide +kernel
theorem d3_15 : decode prog_26_method_1_code 15 = .ok (.lload 5, 2) := by decide +kernel
theorem d3_17 : decode prog_26_method_1_code 17 = .ok (.putfield 16, 3) := by decide +kernel
theorem d3_20 : decode prog_26_method_1_code 20 = .ok (.aload_n 0, 1) := by decide +kernel
theorem d3_21 : decode prog_26_method_1_code 21 = .ok (.lload 7, 2) := by decide +kernel
theorem d3_23 : decode prog_26_method_1_code 23 = .ok (.putfield 19, 3) := by decide +kernel
theorem d3_26 : decode prog_26_method_1_code 26 = .ok (.return_, 1) := by decide +kernel
theorem pn_3 : plainName "com/example/medspan/medspan/ProportionCounts" = true := by first | (simp [plainName, overriddenIn]; done) | decide +kernel
theorem ef_3 (m : MethodId) (a1 : Addr) (q2 : Int64) (q3 : Int64) (q4 : Int64) (q5 : Int64) : entryFrame m #[(.ref a1), (.long q2), (.long q3), (.long q4), (.long q5)] 9 = mkF m 0 #[.val (.ref a1), .val (.long q2), .second, .val (.long q3), .second, .val (.long q4), .second, .val (.long q5), .second] [] := by first | (simp [entryFrame, mkF, argsToLocals, Value.category]; done) | rfl
def Q3 (Z : State) (a1 : Addr) (q2 : Int64) (q3 : Int64) (q4 : Int64) (q5 : Int64) (h0 : Heap) (n0 : Nat) (v : Option Value) (h : Heap) (L : List Loc) : Prop := v = none ∧ Fr n0 L ∧ Keep h0 h [a1] ∧ (Exa Z h a1 "com/example/medspan/medspan/ProportionCounts") ∧ (Fld Z h a1 "com/example/medspan/medspan/ProportionCounts" "denominator" "J" (.long q3)) ∧ (Fld Z h a1 "com/example/medspan/medspan/ProportionCounts" "denominatorExclusion" "J" (.long q4)) ∧ (Fld Z h a1 "com/example/medspan/medspan/ProportionCounts" "initialPopulation" "J" (.long q2)) ∧ (Fld Z h a1 "com/example/medspan/medspan/ProportionCounts" "numerator" "J" (.long q5))
set_option maxRecDepth 65536 in
set_option maxHeartbeats 40000000 in
theorem rm3 (l : Launch) (Z : State) (a0 : Array Value) (hw : ∀ d ∈ tables_1, d.before a0 Z = true) (ws : List Jvm.Cond) (a1 : Addr) (q2 : Int64) (q3 : Int64) (q4 : Int64) (q5 : Int64) (h0 : Heap) (n0 : Nat) (Z0 : n0 ≤ h0.size) (E_a1 : Exa Z h0 a1 "com/example/medspan/medspan/ProportionCounts") (G_a1 : n0 ≤ a1) (F_a1_initialPopulation : Fld Z h0 a1 "com/example/medspan/medspan/ProportionCounts" "initialPopulation" "J" (.long (0 : Int64))) (F_a1_denominator : Fld Z h0 a1 "com/example/medspan/medspan/ProportionCounts" "denominator" "J" (.long (0 : Int64))) (F_a1_denominatorExclusion : Fld Z h0 a1 "com/example/medspan/medspan/ProportionCounts" "denominatorExclusion" "J" (.long (0 : Int64))) (F_a1_numerator : Fld Z h0 a1 "com/example/medspan/medspan/ProportionCounts" "numerator" "J" (.long (0 : Int64))) :
    MetFree l (⟨"com/example/medspan/medspan/ProportionCounts", "<init>", "(JJJJ)V"⟩ : MethodName) (head1 (Jvm.Cond.code (⟨"com/example/medspan/medspan/ProportionCounts", "<init>", "(JJJJ)V"⟩ : MethodName) prog_26_method_1_code 9 none :: ws) ({ frames := 2, cells := 0, slots := 0, locals := 24 } : Room)) (fun a U => a = #[(.ref a1), (.long q2), (.long q3), (.long q4), (.long q5)] ∧ Z.Warmed39 U.vm ∧ U.heap = h0) (fun _ _ _ _ _ => True) (fun _ U o U' => ∃ v L, o = .returned v ∧ Q3 Z a1 q2 q3 q4 q5 h0 n0 v U'.heap L ∧ FrameEnd U o U' L ({ frames := 2, cells := 0, slots := 0, locals := 24 } : Room).cells ({ frames := 2, cells := 0, slots := 0, locals := 24 } : Room).slots) := by
  refine MetFree.of_bodySF (plainFor_of_name pn_3) hisR ?_
  intro p e s m args below meth c s₁ Bd hml0 hP hK
  obtain ⟨rfl, hZ, hh⟩ := hP
  have hx := Bd.exec
  have hby := Bd.bytes
  have hml : c.maxLocals = 9 := hml0
  have hown : s.vm.findClass "com/example/medspan/medspan/ProportionCounts" = some m.cls := findClass_of_methodNamed Bd.named
  have hnm := (name_of_methodNamed Bd.named Bd.method).1
  have X0 : Stand p l e ({ frames := 2, cells := 0, slots := 0, locals := 24 } : Room) s m #[(.ref a1), (.long q2), (.long q3), (.long q4), (.long q5)] below meth c s₁ [] 0 0 := Stand.of_body Bd
  have e0 : s₁.heap = h0 := by rw [← hh, Bd.state]; rfl
  have N0 := Fr.nil n0
  have pre0 : ∀ t, Steps p.tables e below (s₁.setTop (mkF m 0 #[.val (.ref a1), .val (.long q2), .second, .val (.long q3), .second, .val (.long q4), .second, .val (.long q5), .second] [])) t → Steps p.tables e below (s₁.setTop (entryFrame m #[(.ref a1), (.long q2), (.long q3), (.long q4), (.long q5)] 9)) t := fun t k => castTop (ef_3 m a1 q2 q3 q4 q5) k
  refine own_step (Q := fun o U' => ∃ v L, o = .returned v ∧ Q3 Z a1 q2 q3 q4 q5 h0 n0 v U'.heap L ∧ FrameEnd s o U' L ({ frames := 2, cells := 0, slots := 0, locals := 24 } : Room).cells ({ frames := 2, cells := 0, slots := 0, locals := 24 } : Room).slots) pre0 ?_
  have K0 : Keep h0 h0 [a1] := Keep.refl h0 [a1]
  obtain ⟨_, _, ⟨T1, L1, k1, n1⟩, -, X1, ⟨Lc1, hQ1, l1, y1, z1⟩, st1⟩ := X0.specialBack hx (y := (⟨"java/lang/Record", "<init>", "()V"⟩ : MethodName)) rfl hown (mvT hZ (hw _ (List.mem_of_getElem? (i := 12) rfl))) (mvT hZ (hw _ (List.mem_of_getElem? (i := 13) rfl))) (mvT hZ (hw _ (List.mem_of_getElem? (i := 16) rfl))) (by decide) (backOf (W := 0) (rm4 l Z a0 hw [] a1 h0 n0 Z0) hZ (hw _ (List.mem_of_getElem? (i := 16) rfl)) (hw _ (List.mem_of_getElem? (i := 15) rfl)) (by decide) (by decide)) (g := (mkF m 1 #[.val (.ref a1), .val (.long q2), .second, .val (.long q3), .second, .val (.long q4), .second, .val (.long q5), .second] [(.ref a1)])) rfl (by rw [hml]; rfl) (Steps.refl _) (a := a1) (argsL := []) (rest := []) (lenOf pd_0 rfl) rfl (by show 2 * 0 + _ ≤ _; exact Nat.le_of_eq rfl) (hb hby d3_1) (fun _ _ => ⟨rfl, e0, (by decide : 0 + 0 ≤ _), (by decide : 0 + 0 ≤ _)⟩)
  dsimp only [Pt.U, Pt.locs, Pt.cells, Pt.slots] at X1 l1 y1 z1 st1 hQ1
  subst l1 y1 z1
  obtain ⟨rfl, N1q, Kc1⟩ := hQ1
  have N1 := Fr.app N0 N1q
  have u1_0 := E_a1.keep Kc1
  have u1_1 := F_a1_initialPopulation.keep Kc1 (List.not_mem_nil)
  have u1_2 := F_a1_denominator.keep Kc1 (List.not_mem_nil)
  have u1_3 := F_a1_denominatorExclusion.keep Kc1 (List.not_mem_nil)
  have u1_4 := F_a1_numerator.keep Kc1 (List.not_mem_nil)
  have K1 := K0.trans Kc1 (fun x hx => absurd hx List.not_mem_nil)
  have Z1 : n0 ≤ T1.heap.size := Nat.le_trans Z0 Kc1.1
  obtain ⟨T2, h2, X2, e2, W2, st2⟩ := putF X1 hx hZ hown (host := "") (Or.inl (hw _ (List.mem_of_getElem? (i := 20) rfl))) Via.refl rfl u1_1 u1_0 (Or.inr ⟨(hw _ (List.mem_of_getElem? (i := 21) rfl)), rfl, hnm⟩) (hw _ (List.mem_of_getElem? (i := 5) rfl)) (ty := .long) (by decide) rfl rfl (g := (mkF m 6 #[.val (.ref a1), .val (.long q2), .second, .val (.long q3), .second, .val (.long q4), .second, .val (.long q5), .second] [(.long q2), (.ref a1)])) rfl rfl (hb hby d3_6)
  have u2_0 := u1_0.wr W2
  have u2_1 := u1_1.same W2
  have u2_2 := u1_2.other W2 (Or.inr (slot_ne (Or.inr (hw _ (List.mem_of_getElem? (i := 23) rfl))) (Or.inr (hw _ (List.mem_of_getElem? (i := 21) rfl))) (by decide) (t := .long) (t' := .long) (by decide) (by decide)))
  have u2_3 := u1_3.other W2 (Or.inr (slot_ne (Or.inr (hw _ (List.mem_of_getElem? (i := 25) rfl))) (Or.inr (hw _ (List.mem_of_getElem? (i := 21) rfl))) (by decide) (t := .long) (t' := .long) (by decide) (by decide)))
  have u2_4 := u1_4.other W2 (Or.inr (slot_ne (Or.inr (hw _ (List.mem_of_getElem? (i := 27) rfl))) (Or.inr (hw _ (List.mem_of_getElem? (i := 21) rfl))) (by decide) (t := .long) (t' := .long) (by decide) (by decide)))
  have K2 := K1.wr W2 (Or.inl (List.mem_of_getElem? (i := 0) rfl))
  have Z2 : n0 ≤ h2.size := Nat.le_trans Z1 (Keep.of_wr W2).1
  have N2 := Fr.snoc X2 N1 G_a1
  obtain ⟨T3, h3, X3, e3, W3, st3⟩ := putF X2 hx hZ hown (host := "") (Or.inl (hw _ (List.mem_of_getElem? (i := 22) rfl))) Via.refl e2 u2_2 u2_0 (Or.inr ⟨(hw _ (List.mem_of_getElem? (i := 23) rfl)), rfl, hnm⟩) (hw _ (List.mem_of_getElem? (i := 5) rfl)) (ty := .long) (by decide) rfl rfl (g := (mkF m 11 #[.val (.ref a1), .val (.long q2), .second, .val (.long q3), .second, .val (.long q4), .second, .val (.long q5), .second] [(.long q3), (.ref a1)])) rfl rfl (hb hby d3_11)
  have u3_0 := u2_0.wr W3
  have u3_1 := u2_1.other W3 (Or.inr (slot_ne (Or.inr (hw _ (List.mem_of_getElem? (i := 21) rfl))) (Or.inr (hw _ (List.mem_of_getElem? (i := 23) rfl))) (by decide) (t := .long) (t' := .long) (by decide) (by decide)))
  have u3_2 := u2_2.same W3
  have u3_3 := u2_3.other W3 (Or.inr (slot_ne (Or.inr (hw _ (List.mem_of_getElem? (i := 25) rfl))) (Or.inr (hw _ (List.mem_of_getElem? (i := 23) rfl))) (by decide) (t := .long) (t' := .long) (by decide) (by decide)))
  have u3_4 := u2_4.other W3 (Or.inr (slot_ne (Or.inr (hw _ (List.mem_of_getElem? (i := 27) rfl))) (Or.inr (hw _ (List.mem_of_getElem? (i := 23) rfl))) (by decide) (t := .long) (t' := .long) (by decide) (by decide)))
  have K3 := K2.wr W3 (Or.inl (List.mem_of_getElem? (i := 0) rfl))
  have Z3 : n0 ≤ h3.size := Nat.le_trans Z2 (Keep.of_wr W3).1
  have N3 := Fr.snoc X3 N2 G_a1
  obtain ⟨T4, h4, X4, e4, W4, st4⟩ := putF X3 hx hZ hown (host := "") (Or.inl (hw _ (List.mem_of_getElem? (i := 24) rfl))) Via.refl e3 u3_3 u3_0 (Or.inr ⟨(hw _ (List.mem_of_getElem? (i := 25) rfl)), rfl, hnm⟩) (hw _ (List.mem_of_getElem? (i := 5) rfl)) (ty := .long) (by decide) rfl rfl (g := (mkF m 17 #[.val (.ref a1), .val (.long q2), .second, .val (.long q3), .second, .val (.long q4), .second, .val (.long q5), .second] [(.long q4), (.ref a1)])) rfl rfl (hb hby d3_17)
  have u4_0 := u3_0.wr W4
  have u4_1 := u3_1.other W4 (Or.inr (slot_ne (Or.inr (hw _ (List.mem_of_getElem? (i := 21) rfl))) (Or.inr (hw _ (List.mem_of_getElem? (i := 25) rfl))) (by decide) (t := .long) (t' := .long) (by decide) (by decide)))
  have u4_2 := u3_2.other W4 (Or.inr (slot_ne (Or.inr (hw _ (List.mem_of_getElem? (i := 23) rfl))) (Or.inr (hw _ (List.mem_of_getElem? (i := 25) rfl))) (by decide) (t := .long) (t' := .long) (by decide) (by decide)))
  have u4_3 := u3_3.same W4
  have u4_4 := u3_4.other W4 (Or.inr (slot_ne (Or.inr (hw _ (List.mem_of_getElem? (i := 27) rfl))) (Or.inr (hw _ (List.mem_of_getElem? (i := 25) rfl))) (by decide) (t := .long) (t' := .long) (by decide) (by decide)))
  have K4 := K3.wr W4 (Or.inl (List.mem_of_getElem? (i := 0) rfl))
  have Z4 : n0 ≤ h4.size := Nat.le_trans Z3 (Keep.of_wr W4).1
  have N4 := Fr.snoc X4 N3 G_a1
  obtain ⟨T5, h5, X5, e5, W5, st5⟩ := putF X4 hx hZ hown (host := "") (Or.inl (hw _ (List.mem_of_getElem? (i := 26) rfl))) Via.refl e4 u4_4 u4_0 (Or.inr ⟨(hw _ (List.mem_of_getElem? (i := 27) rfl)), rfl, hnm⟩) (hw _ (List.mem_of_getElem? (i := 5) rfl)) (ty := .long) (by decide) rfl rfl (g := (mkF m 23 #[.val (.ref a1), .val (.long q2), .second, .val (.long q3), .second, .val (.long q4), .second, .val (.long q5), .second] [(.long q5), (.ref a1)])) rfl rfl (hb hby d3_23)
  have u5_0 := u4_0.wr W5
  have u5_1 := u4_1.other W5 (Or.inr (slot_ne (Or.inr (hw _ (List.mem_of_getElem? (i := 21) rfl))) (Or.inr (hw _ (List.mem_of_getElem? (i := 27) rfl))) (by decide) (t := .long) (t' := .long) (by decide) (by decide)))
  have u5_2 := u4_2.other W5 (Or.inr (slot_ne (Or.inr (hw _ (List.mem_of_getElem? (i := 23) rfl))) (Or.inr (hw _ (List.mem_of_getElem? (i := 27) rfl))) (by decide) (t := .long) (t' := .long) (by decide) (by decide)))
  have u5_3 := u4_3.other W5 (Or.inr (slot_ne (Or.inr (hw _ (List.mem_of_getElem? (i := 25) rfl))) (Or.inr (hw _ (List.mem_of_getElem? (i := 27) rfl))) (by decide) (t := .long) (t' := .long) (by decide) (by decide)))
  have u5_4 := u4_4.same W5
  have K5 := K4.wr W5 (Or.inl (List.mem_of_getElem? (i := 0) rfl))
  have Z5 : n0 ≤ h5.size := Nat.le_trans Z4 (Keep.of_wr W5).1
  have N5 := Fr.snoc X5 N4 G_a1
  obtain ⟨fs, hr, hrun, hended, hW, hsame⟩ := X5.leave (v := none) (fun _ => rfl)
  refine ⟨_, _, ?_, hrun, hended, _, _, rfl, ?_, ⟨_, rfl⟩, hW, hsame.mono (by decide) (by decide)⟩
  · show Steps p.tables e below (s₁.setTop (mkF m 0 #[.val (.ref a1), .val (.long q2), .second, .val (.long q3), .second, .val (.long q4), .second, .val (.long q5), .second] [])) _
    refine XS.aloadN X0.here hx rfl (hb hby d3_0) rfl rfl ?_
    show Steps p.tables e below (s₁.setTop (mkF m 1 #[.val (.ref a1), .val (.long q2), .second, .val (.long q3), .second, .val (.long q4), .second, .val (.long q5), .second] [(.ref a1)])) _
    refine st1.trans ?_
    show Steps p.tables e below (T1.setTop (mkF m 4 #[.val (.ref a1), .val (.long q2), .second, .val (.long q3), .second, .val (.long q4), .second, .val (.long q5), .second] [])) _
    refine XS.aloadN X1.here hx rfl (hb hby d3_4) rfl rfl ?_
    show Steps p.tables e below (T1.setTop (mkF m 5 #[.val (.ref a1), .val (.long q2), .second, .val (.long q3), .second, .val (.long q4), .second, .val (.long q5), .second] [(.ref a1)])) _
    refine XT.lloadN X1.here hx rfl (hb hby d3_5) rfl ?_
    show Steps p.tables e below (T1.setTop (mkF m 6 #[.val (.ref a1), .val (.long q2), .second, .val (.long q3), .second, .val (.long q4), .second, .val (.long q5), .second] [(.long q2), (.ref a1)])) _
    refine st2 _ ?_
    show Steps p.tables e below (T2.setTop (mkF m 9 #[.val (.ref a1), .val (.long q2), .second, .val (.long q3), .second, .val (.long q4), .second, .val (.long q5), .second] [])) _
    refine XS.aloadN X2.here hx rfl (hb hby d3_9) rfl rfl ?_
    show Steps p.tables e below (T2.setTop (mkF m 10 #[.val (.ref a1), .val (.long q2), .second, .val (.long q3), .second, .val (.long q4), .second, .val (.long q5), .second] [(.ref a1)])) _
    refine XT.lloadN X2.here hx rfl (hb hby d3_10) rfl ?_
    show Steps p.tables e below (T2.setTop (mkF m 11 #[.val (.ref a1), .val (.long q2), .second, .val (.long q3), .second, .val (.long q4), .second, .val (.long q5), .second] [(.long q3), (.ref a1)])) _
    refine st3 _ ?_
    show Steps p.tables e below (T3.setTop (mkF m 14 #[.val (.ref a1), .val (.long q2), .second, .val (.long q3), .second, .val (.long q4), .second, .val (.long q5), .second] [])) _
    refine XS.aloadN X3.here hx rfl (hb hby d3_14) rfl rfl ?_
    show Steps p.tables e below (T3.setTop (mkF m 15 #[.val (.ref a1), .val (.long q2), .second, .val (.long q3), .second, .val (.long q4), .second, .val (.long q5), .second] [(.ref a1)])) _
    refine XT.lload X3.here hx rfl (hb hby d3_15) rfl ?_
    show Steps p.tables e below (T3.setTop (mkF m 17 #[.val (.ref a1), .val (.long q2), .second, .val (.long q3), .second, .val (.long q4), .second, .val (.long q5), .second] [(.long q4), (.ref a1)])) _
    refine st4 _ ?_
    show Steps p.tables e below (T4.setTop (mkF m 20 #[.val (.ref a1), .val (.long q2), .second, .val (.long q3), .second, .val (.long q4), .second, .val (.long q5), .second] [])) _
    refine XS.aloadN X4.here hx rfl (hb hby d3_20) rfl rfl ?_
    show Steps p.tables e below (T4.setTop (mkF m 21 #[.val (.ref a1), .val (.long q2), .second, .val (.long q3), .second, .val (.long q4), .second, .val (.long q5), .second] [(.ref a1)])) _
    refine XT.lload X4.here hx rfl (hb hby d3_21) rfl ?_
    show Steps p.tables e below (T4.setTop (mkF m 23 #[.val (.ref a1), .val (.long q2), .second, .val (.long q3), .second, .val (.long q4), .second, .val (.long q5), .second] [(.long q5), (.ref a1)])) _
    refine st5 _ ?_
    show Steps p.tables e below (T5.setTop (mkF m 26 #[.val (.ref a1), .val (.long q2), .second, .val (.long q3), .second, .val (.long q4), .second, .val (.long q5), .second] [])) _
    exact X5.returnOut hx Bd.returns (hb hby d3_26) hr
  · show Q3 Z a1 q2 q3 q4 q5 h0 n0 _ T5.heap _
    rw [e5]
    exact ⟨rfl, N5, K5, u5_0, u5_2, u5_3, u5_1, u5_4⟩
theorem d1_0 : decode prog_26_method_2_code 0 = .ok (.new 8, 3) := by decide +kernel
theorem d1_3 : decode prog_26_method_2_code 3 = .ok (.dup, 1) := by decide +kernel
theorem d1_4 : decode prog_26_method_2_code 4 = .ok (.iload_n 0, 1) := by decide +kernel
theorem d1_5 : decode prog_26_method_2_code 5 = .ok (.invokestatic 22, 3) := by decide +kernel
theorem d1_8 : decode prog_26_method_2_code 8 = .ok (.iload_n 1, 1) := by decide +kernel
theorem d1_9 : decode prog_26_method_2_code 9 = .ok (.invokestatic 22, 3) := by decide +kernel
theorem d1_12 : decode prog_26_method_2_code 12 = .ok (.iload_n 1, 1) := by decide +kernel
theorem d1_13 : decode prog_26_method_2_code 13 = .ok (.ifCond .eq 11, 3) := by decide +kernel
theorem d1_16 : decode prog_26_method_2_code 16 = .ok (.iload_n 2, 1) := by decide +kernel
theorem d1_17 : decode prog_26_method_2_code 17 = .ok (.ifCond .eq 7, 3) := by decide +kernel
theorem d1_20 : decode prog_26_method_2_code 20 = .ok (.iconst 1, 1) := by decide +kernel
theorem d1_21 : decode prog_26_method_2_code 21 = .ok (.goto 4, 3) := by decide +kernel
theorem d1_24 : decode prog_26_method_2_code 24 = .ok (.iconst 0, 1) := by decide +kernel
theorem d1_25 : decode prog_26_method_2_code 25 = .ok (.invokestatic 22, 3) := by decide +kernel
theorem d1_28 : decode prog_26_method_2_code 28 = .ok (.iload_n 1, 1) := by decide +kernel
theorem d1_29 : decode prog_26_method_2_code 29 = .ok (.ifCond .eq 15, 3) := by decide +kernel
theorem d1_32 : decode prog_26_method_2_code 32 = .ok (.iload_n 2, 1) := by decide +kernel
theorem d1_33 : decode prog_26_method_2_code 33 = .ok (.ifCond .ne 11, 3) := by decide +kernel
theorem d1_36 : decode prog_26_method_2_code 36 = .ok (.iload_n 3, 1) := by decide +kernel
theorem d1_37 : decode prog_26_method_2_code 37 = .ok (.ifCond .eq 7, 3) := by decide +kernel
theorem d1_40 : decode prog_26_method_2_code 40 = .ok (.iconst 1, 1) := by decide +kernel
theorem d1_41 : decode prog_26_method_2_code 41 = .ok (.goto 4, 3) := by decide +kernel
theorem d1_44 : decode prog_26_method_2_code 44 = .ok (.iconst 0, 1) := by decide +kernel
theorem d1_45 : decode prog_26_method_2_code 45 = .ok (.invokestatic 22, 3) := by decide +kernel
theorem d1_48 : decode prog_26_method_2_code 48 = .ok (.invokespecial 26, 3) := by decide +kernel
theorem d1_51 : decode prog_26_method_2_code 51 = .ok (.areturn, 1) := by decide +kernel
theorem pn_1 : plainName "com/example/medspan/medspan/ProportionCounts" = true := by first | (simp [plainName, overriddenIn]; done) | decide +kernel
theorem ef_1 (m : MethodId) (p1 : Int32) (p2 : Int32) (p3 : Int32) (p4 : Int32) : entryFrame m #[(.int p1), (.int p2), (.int p3), (.int p4)] 4 = mkF m 0 #[.val (.int p1), .val (.int p2), .val (.int p3), .val (.int p4)] [] := by first | (simp [entryFrame, mkF, argsToLocals, Value.category]; done) | rfl
def Q1 (Z : State) (p1 : Int32) (p2 : Int32) (p3 : Int32) (p4 : Int32) (h0 : Heap) (n0 : Nat) (v : Option Value) (h : Heap) (L : List Loc) : Prop := ∃ (r : Addr), v = some (.ref r) ∧ Fr n0 L ∧ Keep h0 h [] ∧ h0.size ≤ r ∧ (Exa Z h r "com/example/medspan/medspan/ProportionCounts") ∧ (Fld Z h r "com/example/medspan/medspan/ProportionCounts" "denominator" "J" (.long (f2 p2))) ∧ (Fld Z h r "com/example/medspan/medspan/ProportionCounts" "denominatorExclusion" "J" (.long (f2 (f1_0 p1 p2 p3 p4)))) ∧ (Fld Z h r "com/example/medspan/medspan/ProportionCounts" "initialPopulation" "J" (.long (f2 p1))) ∧ (Fld Z h r "com/example/medspan/medspan/ProportionCounts" "numerator" "J" (.long (f2 (f1_2 p1 p2 p3 p4))))
set_option maxRecDepth 65536 in
set_option maxHeartbeats 40000000 in
theorem rm1 (l : Launch) (Z : State) (a0 : Array Value) (hw : ∀ d ∈ tables_1, d.before a0 Z = true) (ws : List Jvm.Cond) (p1 : Int32) (p2 : Int32) (p3 : Int32) (p4 : Int32) (h0 : Heap) (n0 : Nat) (Z0 : n0 ≤ h0.size) :
    MetFree l (⟨"com/example/medspan/medspan/ProportionCounts", "of", "(ZZZZ)Lcom/example/medspan/medspan/ProportionCounts;"⟩ : MethodName) (head1 (Jvm.Cond.code (⟨"com/example/medspan/medspan/ProportionCounts", "of", "(ZZZZ)Lcom/example/medspan/medspan/ProportionCounts;"⟩ : MethodName) prog_26_method_2_code 4 (some (.object "com/example/medspan/medspan/ProportionCounts")) :: ws) ({ frames := 3, cells := 1, slots := 4, locals := 45 } : Room)) (fun a U => a = #[(.int p1), (.int p2), (.int p3), (.int p4)] ∧ Z.Warmed39 U.vm ∧ U.heap = h0) (fun _ _ _ _ _ => True) (fun _ U o U' => ∃ v L, o = .returned v ∧ Q1 Z p1 p2 p3 p4 h0 n0 v U'.heap L ∧ FrameEnd U o U' L ({ frames := 3, cells := 1, slots := 4, locals := 45 } : Room).cells ({ frames := 3, cells := 1, slots := 4, locals := 45 } : Room).slots) := by
  refine MetFree.of_bodySF (plainFor_of_name pn_1) hisR ?_
  intro p e s m args below meth c s₁ Bd hml0 hP hK
  obtain ⟨rfl, hZ, hh⟩ := hP
  have hx := Bd.exec
  have hby := Bd.bytes
  have hml : c.maxLocals = 4 := hml0
  have hown : s.vm.findClass "com/example/medspan/medspan/ProportionCounts" = some m.cls := findClass_of_methodNamed Bd.named
  have hnm := (name_of_methodNamed Bd.named Bd.method).1
  have X0 : Stand p l e ({ frames := 3, cells := 1, slots := 4, locals := 45 } : Room) s m #[(.int p1), (.int p2), (.int p3), (.int p4)] below meth c s₁ [] 0 0 := Stand.of_body Bd
  have e0 : s₁.heap = h0 := by rw [← hh, Bd.state]; rfl
  have N0 := Fr.nil n0
  have pre0 : ∀ t, Steps p.tables e below (s₁.setTop (mkF m 0 #[.val (.int p1), .val (.int p2), .val (.int p3), .val (.int p4)] [])) t → Steps p.tables e below (s₁.setTop (entryFrame m #[(.int p1), (.int p2), (.int p3), (.int p4)] 4)) t := fun t k => castTop (ef_1 m p1 p2 p3 p4) k
  refine own_step (Q := fun o U' => ∃ v L, o = .returned v ∧ Q1 Z p1 p2 p3 p4 h0 n0 v U'.heap L ∧ FrameEnd s o U' L ({ frames := 3, cells := 1, slots := 4, locals := 45 } : Room).cells ({ frames := 3, cells := 1, slots := 4, locals := 45 } : Room).slots) pre0 ?_
  have K0 : Keep h0 h0 [] := Keep.refl h0 []
  obtain ⟨T1, h1, X1, e1, E1, A1, D1, -, st1⟩ := newO X0 hx hZ hown (hw _ (List.mem_of_getElem? (i := 4) rfl)) (hw _ (List.mem_of_getElem? (i := 5) rfl)) (hw _ (List.mem_of_getElem? (i := 2) rfl)) e0 (g := (mkF m 0 #[.val (.int p1), .val (.int p2), .val (.int p3), .val (.int p4)] [])) rfl (hb hby d1_0) (by decide) (by decide)
  obtain ⟨o1, g1⟩ : ∃ z, z = h0.size := ⟨_, rfl⟩
  rw [← g1] at A1 D1 st1
  have ge1 : n0 ≤ o1 := Nat.le_trans Z0 (Nat.le_of_eq g1.symm)
  have Z1 : n0 ≤ h1.size := Nat.le_trans Z0 E1.1
  have sz1 : h0.size ≤ o1 := Nat.le_trans K0.1 (Nat.le_of_eq g1.symm)
  have K1 := K0.ext E1
  have D1_21 : Fld Z h1 o1 "com/example/medspan/medspan/ProportionCounts" "initialPopulation" "J" (.long (0 : Int64)) := D1 (Or.inr (hw _ (List.mem_of_getElem? (i := 21) rfl))) (ty := .long) (by decide)
  have D1_23 : Fld Z h1 o1 "com/example/medspan/medspan/ProportionCounts" "denominator" "J" (.long (0 : Int64)) := D1 (Or.inr (hw _ (List.mem_of_getElem? (i := 23) rfl))) (ty := .long) (by decide)
  have D1_25 : Fld Z h1 o1 "com/example/medspan/medspan/ProportionCounts" "denominatorExclusion" "J" (.long (0 : Int64)) := D1 (Or.inr (hw _ (List.mem_of_getElem? (i := 25) rfl))) (ty := .long) (by decide)
  have D1_27 : Fld Z h1 o1 "com/example/medspan/medspan/ProportionCounts" "numerator" "J" (.long (0 : Int64)) := D1 (Or.inr (hw _ (List.mem_of_getElem? (i := 27) rfl))) (ty := .long) (by decide)
  obtain ⟨_, _, ⟨T2, L2, k2, n2⟩, -, X2, ⟨Lc2, hQ2, l2, y2, z2⟩, st2⟩ := Jvm.LawKit.callS X1 hx (y := (⟨"com/example/medspan/medspan/ProportionCounts", "count", "(Z)J"⟩ : MethodName)) hown (mvT hZ (hw _ (List.mem_of_getElem? (i := 6) rfl))) (mvT hZ (hw _ (List.mem_of_getElem? (i := 7) rfl))) (mvT hZ (hw _ (List.mem_of_getElem? (i := 2) rfl))) (mvT hZ (hw _ (List.mem_of_getElem? (i := 8) rfl))) (by decide) (backOf (W := 2) (rm2 l Z a0 hw [] p1 h1 n0 Z1) hZ (hw _ (List.mem_of_getElem? (i := 8) rfl)) (hw _ (List.mem_of_getElem? (i := 2) rfl)) (by decide) (by decide)) (g := (mkF m 5 #[.val (.int p1), .val (.int p2), .val (.int p3), .val (.int p4)] [(.int p1), (.ref o1), (.ref o1)])) rfl (by rw [hml]; rfl) (argsL := [(.int p1)]) (rest := [(.ref o1), (.ref o1)]) (lenOf pd_1 rfl) rfl (by show 2 * 0 + _ ≤ _; exact Nat.le_of_eq rfl) (hb hby d1_5) (fun _ _ => ⟨rfl, e1, (by decide : 1 + 0 ≤ _), (by decide : 4 + 0 ≤ _)⟩)
  dsimp only [Pt.U, Pt.locs, Pt.cells, Pt.slots] at X2 l2 y2 z2 st2 hQ2
  subst l2 y2 z2
  obtain ⟨rfl, N2q, e2⟩ := hQ2
  have N2 := Fr.app N0 N2q
  obtain ⟨_, _, ⟨T3, L3, k3, n3⟩, -, X3, ⟨Lc3, hQ3, l3, y3, z3⟩, st3⟩ := Jvm.LawKit.callS X2 hx (y := (⟨"com/example/medspan/medspan/ProportionCounts", "count", "(Z)J"⟩ : MethodName)) hown (mvT hZ (hw _ (List.mem_of_getElem? (i := 6) rfl))) (mvT hZ (hw _ (List.mem_of_getElem? (i := 7) rfl))) (mvT hZ (hw _ (List.mem_of_getElem? (i := 2) rfl))) (mvT hZ (hw _ (List.mem_of_getElem? (i := 8) rfl))) (by decide) (backOf (W := 4) (rm2 l Z a0 hw [] p2 h1 n0 Z1) hZ (hw _ (List.mem_of_getElem? (i := 8) rfl)) (hw _ (List.mem_of_getElem? (i := 2) rfl)) (by decide) (by decide)) (g := (mkF m 9 #[.val (.int p1), .val (.int p2), .val (.int p3), .val (.int p4)] [(.int p2), (.long (f2 p1)), (.ref o1), (.ref o1)])) rfl (by rw [hml]; rfl) (argsL := [(.int p2)]) (rest := [(.long (f2 p1)), (.ref o1), (.ref o1)]) (lenOf pd_1 rfl) rfl (by show 2 * 0 + _ ≤ _; exact Nat.le_of_eq rfl) (hb hby d1_9) (fun _ _ => ⟨rfl, e2, (by decide : 1 + 0 ≤ _), (by decide : 4 + 0 ≤ _)⟩)
  dsimp only [Pt.U, Pt.locs, Pt.cells, Pt.slots] at X3 l3 y3 z3 st3 hQ3
  subst l3 y3 z3
  obtain ⟨rfl, N3q, e3⟩ := hQ3
  have N3 := Fr.app N2 N3q
  have st7 : ∀ t, Steps p.tables e below (T3.setTop (mkF m 25 #[.val (.int p1), .val (.int p2), .val (.int p3), .val (.int p4)] [(.int (f1_0 p1 p2 p3 p4)), (.long (f2 p2)), (.long (f2 p1)), (.ref o1), (.ref o1)])) t → Steps p.tables e below (T3.setTop (mkF m 13 #[.val (.int p1), .val (.int p2), .val (.int p3), .val (.int p4)] [(.int p2), (.long (f2 p2)), (.long (f2 p1)), (.ref o1), (.ref o1)])) t := by
    intro t k
    by_cases h4 : p2 = (0 : Int32)
    · rw [show (f1_0 p1 p2 p3 p4) = (0 : Int32) from if_pos h4] at k
      show Steps p.tables e below (T3.setTop (mkF m 13 #[.val (.int p1), .val (.int p2), .val (.int p3), .val (.int p4)] [(.int p2), (.long (f2 p2)), (.long (f2 p1)), (.ref o1), (.ref o1)])) _
      refine XS.ifYes X3.here hx rfl (pc0 := 13) (pc' := 24) rfl (hb hby d1_13) rfl ((if0 _ _).trans (teq h4).1) (by decide) (by decide) ?_
      show Steps p.tables e below (T3.setTop (mkF m 24 #[.val (.int p1), .val (.int p2), .val (.int p3), .val (.int p4)] [(.long (f2 p2)), (.long (f2 p1)), (.ref o1), (.ref o1)])) _
      refine XS.iconst X3.here hx rfl (hb hby d1_24) ?_
      exact k
    · have st6 : ∀ t, Steps p.tables e below (T3.setTop (mkF m 25 #[.val (.int p1), .val (.int p2), .val (.int p3), .val (.int p4)] [(.int (if p3 = (0 : Int32) then (0 : Int32) else (1 : Int32))), (.long (f2 p2)), (.long (f2 p1)), (.ref o1), (.ref o1)])) t → Steps p.tables e below (T3.setTop (mkF m 17 #[.val (.int p1), .val (.int p2), .val (.int p3), .val (.int p4)] [(.int p3), (.long (f2 p2)), (.long (f2 p1)), (.ref o1), (.ref o1)])) t := by
        intro t k
        by_cases h5 : p3 = (0 : Int32)
        · rw [show (if p3 = (0 : Int32) then (0 : Int32) else (1 : Int32)) = (0 : Int32) from if_pos h5] at k
          show Steps p.tables e below (T3.setTop (mkF m 17 #[.val (.int p1), .val (.int p2), .val (.int p3), .val (.int p4)] [(.int p3), (.long (f2 p2)), (.long (f2 p1)), (.ref o1), (.ref o1)])) _
          refine XS.ifYes X3.here hx rfl (pc0 := 17) (pc' := 24) rfl (hb hby d1_17) rfl ((if0 _ _).trans (teq h5).1) (by decide) (by decide) ?_
          show Steps p.tables e below (T3.setTop (mkF m 24 #[.val (.int p1), .val (.int p2), .val (.int p3), .val (.int p4)] [(.long (f2 p2)), (.long (f2 p1)), (.ref o1), (.ref o1)])) _
          refine XS.iconst X3.here hx rfl (hb hby d1_24) ?_
          exact k
        · rw [show (if p3 = (0 : Int32) then (0 : Int32) else (1 : Int32)) = (1 : Int32) from if_neg h5] at k
          show Steps p.tables e below (T3.setTop (mkF m 17 #[.val (.int p1), .val (.int p2), .val (.int p3), .val (.int p4)] [(.int p3), (.long (f2 p2)), (.long (f2 p1)), (.ref o1), (.ref o1)])) _
          refine XS.ifNo X3.here hx rfl (hb hby d1_17) rfl ((if0 _ _).trans (feq h5).1) ?_
          show Steps p.tables e below (T3.setTop (mkF m 20 #[.val (.int p1), .val (.int p2), .val (.int p3), .val (.int p4)] [(.long (f2 p2)), (.long (f2 p1)), (.ref o1), (.ref o1)])) _
          refine XS.iconst X3.here hx rfl (hb hby d1_20) ?_
          show Steps p.tables e below (T3.setTop (mkF m 21 #[.val (.int p1), .val (.int p2), .val (.int p3), .val (.int p4)] [(.int (1 : Int32)), (.long (f2 p2)), (.long (f2 p1)), (.ref o1), (.ref o1)])) _
          refine XS.goto X3.here hx rfl (pc0 := 21) (pc' := 25) rfl (hb hby d1_21) (by decide) (by decide) ?_
          exact k
      rw [show (f1_0 p1 p2 p3 p4) = (if p3 = (0 : Int32) then (0 : Int32) else (1 : Int32)) from if_neg h4] at k
      show Steps p.tables e below (T3.setTop (mkF m 13 #[.val (.int p1), .val (.int p2), .val (.int p3), .val (.int p4)] [(.int p2), (.long (f2 p2)), (.long (f2 p1)), (.ref o1), (.ref o1)])) _
      refine XS.ifNo X3.here hx rfl (hb hby d1_13) rfl ((if0 _ _).trans (feq h4).1) ?_
      show Steps p.tables e below (T3.setTop (mkF m 16 #[.val (.int p1), .val (.int p2), .val (.int p3), .val (.int p4)] [(.long (f2 p2)), (.long (f2 p1)), (.ref o1), (.ref o1)])) _
      refine XS.iloadN X3.here hx rfl (hb hby d1_16) rfl ?_
      show Steps p.tables e below (T3.setTop (mkF m 17 #[.val (.int p1), .val (.int p2), .val (.int p3), .val (.int p4)] [(.int p3), (.long (f2 p2)), (.long (f2 p1)), (.ref o1), (.ref o1)])) _
      refine st6 _ ?_
      exact k
  obtain ⟨_, _, ⟨T8, L8, k8, n8⟩, -, X8, ⟨Lc8, hQ8, l8, y8, z8⟩, st8⟩ := Jvm.LawKit.callS X3 hx (y := (⟨"com/example/medspan/medspan/ProportionCounts", "count", "(Z)J"⟩ : MethodName)) hown (mvT hZ (hw _ (List.mem_of_getElem? (i := 6) rfl))) (mvT hZ (hw _ (List.mem_of_getElem? (i := 7) rfl))) (mvT hZ (hw _ (List.mem_of_getElem? (i := 2) rfl))) (mvT hZ (hw _ (List.mem_of_getElem? (i := 8) rfl))) (by decide) (backOf (W := 6) (rm2 l Z a0 hw [] (f1_0 p1 p2 p3 p4) h1 n0 Z1) hZ (hw _ (List.mem_of_getElem? (i := 8) rfl)) (hw _ (List.mem_of_getElem? (i := 2) rfl)) (by decide) (by decide)) (g := (mkF m 25 #[.val (.int p1), .val (.int p2), .val (.int p3), .val (.int p4)] [(.int (f1_0 p1 p2 p3 p4)), (.long (f2 p2)), (.long (f2 p1)), (.ref o1), (.ref o1)])) rfl (by rw [hml]; rfl) (argsL := [(.int (f1_0 p1 p2 p3 p4))]) (rest := [(.long (f2 p2)), (.long (f2 p1)), (.ref o1), (.ref o1)]) (lenOf pd_1 rfl) rfl (by show 2 * 0 + _ ≤ _; exact Nat.le_of_eq rfl) (hb hby d1_25) (fun _ _ => ⟨rfl, e3, (by decide : 1 + 0 ≤ _), (by decide : 4 + 0 ≤ _)⟩)
  dsimp only [Pt.U, Pt.locs, Pt.cells, Pt.slots] at X8 l8 y8 z8 st8 hQ8
  subst l8 y8 z8
  obtain ⟨rfl, N8q, e8⟩ := hQ8
  have N8 := Fr.app N3 N8q
  have st14 : ∀ t, Steps p.tables e below (T8.setTop (mkF m 45 #[.val (.int p1), .val (.int p2), .val (.int p3), .val (.int p4)] [(.int (f1_2 p1 p2 p3 p4)), (.long (f2 (f1_0 p1 p2 p3 p4))), (.long (f2 p2)), (.long (f2 p1)), (.ref o1), (.ref o1)])) t → Steps p.tables e below (T8.setTop (mkF m 29 #[.val (.int p1), .val (.int p2), .val (.int p3), .val (.int p4)] [(.int p2), (.long (f2 (f1_0 p1 p2 p3 p4))), (.long (f2 p2)), (.long (f2 p1)), (.ref o1), (.ref o1)])) t := by
    intro t k
    by_cases h9 : p2 = (0 : Int32)
    · rw [show (f1_2 p1 p2 p3 p4) = (0 : Int32) from if_pos h9] at k
      show Steps p.tables e below (T8.setTop (mkF m 29 #[.val (.int p1), .val (.int p2), .val (.int p3), .val (.int p4)] [(.int p2), (.long (f2 (f1_0 p1 p2 p3 p4))), (.long (f2 p2)), (.long (f2 p1)), (.ref o1), (.ref o1)])) _
      refine XS.ifYes X8.here hx rfl (pc0 := 29) (pc' := 44) rfl (hb hby d1_29) rfl ((if0 _ _).trans (teq h9).1) (by decide) (by decide) ?_
      show Steps p.tables e below (T8.setTop (mkF m 44 #[.val (.int p1), .val (.int p2), .val (.int p3), .val (.int p4)] [(.long (f2 (f1_0 p1 p2 p3 p4))), (.long (f2 p2)), (.long (f2 p1)), (.ref o1), (.ref o1)])) _
      refine XS.iconst X8.here hx rfl (hb hby d1_44) ?_
      exact k
    · have st13 : ∀ t, Steps p.tables e below (T8.setTop (mkF m 45 #[.val (.int p1), .val (.int p2), .val (.int p3), .val (.int p4)] [(.int (f1_1 p1 p2 p3 p4)), (.long (f2 (f1_0 p1 p2 p3 p4))), (.long (f2 p2)), (.long (f2 p1)), (.ref o1), (.ref o1)])) t → Steps p.tables e below (T8.setTop (mkF m 33 #[.val (.int p1), .val (.int p2), .val (.int p3), .val (.int p4)] [(.int p3), (.long (f2 (f1_0 p1 p2 p3 p4))), (.long (f2 p2)), (.long (f2 p1)), (.ref o1), (.ref o1)])) t := by
        intro t k
        by_cases h10 : p3 = (0 : Int32)
        · have st12 : ∀ t, Steps p.tables e below (T8.setTop (mkF m 45 #[.val (.int p1), .val (.int p2), .val (.int p3), .val (.int p4)] [(.int (if p4 = (0 : Int32) then (0 : Int32) else (1 : Int32))), (.long (f2 (f1_0 p1 p2 p3 p4))), (.long (f2 p2)), (.long (f2 p1)), (.ref o1), (.ref o1)])) t → Steps p.tables e below (T8.setTop (mkF m 37 #[.val (.int p1), .val (.int p2), .val (.int p3), .val (.int p4)] [(.int p4), (.long (f2 (f1_0 p1 p2 p3 p4))), (.long (f2 p2)), (.long (f2 p1)), (.ref o1), (.ref o1)])) t := by
            intro t k
            by_cases h11 : p4 = (0 : Int32)
            · rw [show (if p4 = (0 : Int32) then (0 : Int32) else (1 : Int32)) = (0 : Int32) from if_pos h11] at k
              show Steps p.tables e below (T8.setTop (mkF m 37 #[.val (.int p1), .val (.int p2), .val (.int p3), .val (.int p4)] [(.int p4), (.long (f2 (f1_0 p1 p2 p3 p4))), (.long (f2 p2)), (.long (f2 p1)), (.ref o1), (.ref o1)])) _
              refine XS.ifYes X8.here hx rfl (pc0 := 37) (pc' := 44) rfl (hb hby d1_37) rfl ((if0 _ _).trans (teq h11).1) (by decide) (by decide) ?_
              show Steps p.tables e below (T8.setTop (mkF m 44 #[.val (.int p1), .val (.int p2), .val (.int p3), .val (.int p4)] [(.long (f2 (f1_0 p1 p2 p3 p4))), (.long (f2 p2)), (.long (f2 p1)), (.ref o1), (.ref o1)])) _
              refine XS.iconst X8.here hx rfl (hb hby d1_44) ?_
              exact k
            · rw [show (if p4 = (0 : Int32) then (0 : Int32) else (1 : Int32)) = (1 : Int32) from if_neg h11] at k
              show Steps p.tables e below (T8.setTop (mkF m 37 #[.val (.int p1), .val (.int p2), .val (.int p3), .val (.int p4)] [(.int p4), (.long (f2 (f1_0 p1 p2 p3 p4))), (.long (f2 p2)), (.long (f2 p1)), (.ref o1), (.ref o1)])) _
              refine XS.ifNo X8.here hx rfl (hb hby d1_37) rfl ((if0 _ _).trans (feq h11).1) ?_
              show Steps p.tables e below (T8.setTop (mkF m 40 #[.val (.int p1), .val (.int p2), .val (.int p3), .val (.int p4)] [(.long (f2 (f1_0 p1 p2 p3 p4))), (.long (f2 p2)), (.long (f2 p1)), (.ref o1), (.ref o1)])) _
              refine XS.iconst X8.here hx rfl (hb hby d1_40) ?_
              show Steps p.tables e below (T8.setTop (mkF m 41 #[.val (.int p1), .val (.int p2), .val (.int p3), .val (.int p4)] [(.int (1 : Int32)), (.long (f2 (f1_0 p1 p2 p3 p4))), (.long (f2 p2)), (.long (f2 p1)), (.ref o1), (.ref o1)])) _
              refine XS.goto X8.here hx rfl (pc0 := 41) (pc' := 45) rfl (hb hby d1_41) (by decide) (by decide) ?_
              exact k
          rw [show (f1_1 p1 p2 p3 p4) = (if p4 = (0 : Int32) then (0 : Int32) else (1 : Int32)) from if_pos h10] at k
          show Steps p.tables e below (T8.setTop (mkF m 33 #[.val (.int p1), .val (.int p2), .val (.int p3), .val (.int p4)] [(.int p3), (.long (f2 (f1_0 p1 p2 p3 p4))), (.long (f2 p2)), (.long (f2 p1)), (.ref o1), (.ref o1)])) _
          refine XS.ifNo X8.here hx rfl (hb hby d1_33) rfl ((if0 _ _).trans (teq h10).2) ?_
          show Steps p.tables e below (T8.setTop (mkF m 36 #[.val (.int p1), .val (.int p2), .val (.int p3), .val (.int p4)] [(.long (f2 (f1_0 p1 p2 p3 p4))), (.long (f2 p2)), (.long (f2 p1)), (.ref o1), (.ref o1)])) _
          refine XS.iloadN X8.here hx rfl (hb hby d1_36) rfl ?_
          show Steps p.tables e below (T8.setTop (mkF m 37 #[.val (.int p1), .val (.int p2), .val (.int p3), .val (.int p4)] [(.int p4), (.long (f2 (f1_0 p1 p2 p3 p4))), (.long (f2 p2)), (.long (f2 p1)), (.ref o1), (.ref o1)])) _
          refine st12 _ ?_
          exact k
        · rw [show (f1_1 p1 p2 p3 p4) = (0 : Int32) from if_neg h10] at k
          show Steps p.tables e below (T8.setTop (mkF m 33 #[.val (.int p1), .val (.int p2), .val (.int p3), .val (.int p4)] [(.int p3), (.long (f2 (f1_0 p1 p2 p3 p4))), (.long (f2 p2)), (.long (f2 p1)), (.ref o1), (.ref o1)])) _
          refine XS.ifYes X8.here hx rfl (pc0 := 33) (pc' := 44) rfl (hb hby d1_33) rfl ((if0 _ _).trans (feq h10).2) (by decide) (by decide) ?_
          show Steps p.tables e below (T8.setTop (mkF m 44 #[.val (.int p1), .val (.int p2), .val (.int p3), .val (.int p4)] [(.long (f2 (f1_0 p1 p2 p3 p4))), (.long (f2 p2)), (.long (f2 p1)), (.ref o1), (.ref o1)])) _
          refine XS.iconst X8.here hx rfl (hb hby d1_44) ?_
          exact k
      rw [show (f1_2 p1 p2 p3 p4) = (f1_1 p1 p2 p3 p4) from if_neg h9] at k
      show Steps p.tables e below (T8.setTop (mkF m 29 #[.val (.int p1), .val (.int p2), .val (.int p3), .val (.int p4)] [(.int p2), (.long (f2 (f1_0 p1 p2 p3 p4))), (.long (f2 p2)), (.long (f2 p1)), (.ref o1), (.ref o1)])) _
      refine XS.ifNo X8.here hx rfl (hb hby d1_29) rfl ((if0 _ _).trans (feq h9).1) ?_
      show Steps p.tables e below (T8.setTop (mkF m 32 #[.val (.int p1), .val (.int p2), .val (.int p3), .val (.int p4)] [(.long (f2 (f1_0 p1 p2 p3 p4))), (.long (f2 p2)), (.long (f2 p1)), (.ref o1), (.ref o1)])) _
      refine XS.iloadN X8.here hx rfl (hb hby d1_32) rfl ?_
      show Steps p.tables e below (T8.setTop (mkF m 33 #[.val (.int p1), .val (.int p2), .val (.int p3), .val (.int p4)] [(.int p3), (.long (f2 (f1_0 p1 p2 p3 p4))), (.long (f2 p2)), (.long (f2 p1)), (.ref o1), (.ref o1)])) _
      refine st13 _ ?_
      exact k
  obtain ⟨_, _, ⟨T15, L15, k15, n15⟩, -, X15, ⟨Lc15, hQ15, l15, y15, z15⟩, st15⟩ := Jvm.LawKit.callS X8 hx (y := (⟨"com/example/medspan/medspan/ProportionCounts", "count", "(Z)J"⟩ : MethodName)) hown (mvT hZ (hw _ (List.mem_of_getElem? (i := 6) rfl))) (mvT hZ (hw _ (List.mem_of_getElem? (i := 7) rfl))) (mvT hZ (hw _ (List.mem_of_getElem? (i := 2) rfl))) (mvT hZ (hw _ (List.mem_of_getElem? (i := 8) rfl))) (by decide) (backOf (W := 8) (rm2 l Z a0 hw [] (f1_2 p1 p2 p3 p4) h1 n0 Z1) hZ (hw _ (List.mem_of_getElem? (i := 8) rfl)) (hw _ (List.mem_of_getElem? (i := 2) rfl)) (by decide) (by decide)) (g := (mkF m 45 #[.val (.int p1), .val (.int p2), .val (.int p3), .val (.int p4)] [(.int (f1_2 p1 p2 p3 p4)), (.long (f2 (f1_0 p1 p2 p3 p4))), (.long (f2 p2)), (.long (f2 p1)), (.ref o1), (.ref o1)])) rfl (by rw [hml]; rfl) (argsL := [(.int (f1_2 p1 p2 p3 p4))]) (rest := [(.long (f2 (f1_0 p1 p2 p3 p4))), (.long (f2 p2)), (.long (f2 p1)), (.ref o1), (.ref o1)]) (lenOf pd_1 rfl) rfl (by show 2 * 0 + _ ≤ _; exact Nat.le_of_eq rfl) (hb hby d1_45) (fun _ _ => ⟨rfl, e8, (by decide : 1 + 0 ≤ _), (by decide : 4 + 0 ≤ _)⟩)
  dsimp only [Pt.U, Pt.locs, Pt.cells, Pt.slots] at X15 l15 y15 z15 st15 hQ15
  subst l15 y15 z15
  obtain ⟨rfl, N15q, e15⟩ := hQ15
  have N15 := Fr.app N8 N15q
  obtain ⟨_, _, ⟨T16, L16, k16, n16⟩, -, X16, ⟨Lc16, hQ16, l16, y16, z16⟩, st16⟩ := X15.specialBack hx (y := (⟨"com/example/medspan/medspan/ProportionCounts", "<init>", "(JJJJ)V"⟩ : MethodName)) rfl hown (mvT hZ (hw _ (List.mem_of_getElem? (i := 9) rfl))) (mvT hZ (hw _ (List.mem_of_getElem? (i := 10) rfl))) (mvT hZ (hw _ (List.mem_of_getElem? (i := 11) rfl))) (by decide) (backOf (W := 1) (rm3 l Z a0 hw [] o1 (f2 p1) (f2 p2) (f2 (f1_0 p1 p2 p3 p4)) (f2 (f1_2 p1 p2 p3 p4)) h1 n0 Z1 A1 ge1 D1_21 D1_23 D1_25 D1_27) hZ (hw _ (List.mem_of_getElem? (i := 11) rfl)) (hw _ (List.mem_of_getElem? (i := 2) rfl)) (by decide) (by decide)) (g := (mkF m 48 #[.val (.int p1), .val (.int p2), .val (.int p3), .val (.int p4)] [(.long (f2 (f1_2 p1 p2 p3 p4))), (.long (f2 (f1_0 p1 p2 p3 p4))), (.long (f2 p2)), (.long (f2 p1)), (.ref o1), (.ref o1)])) rfl (by rw [hml]; rfl) (Steps.refl _) (a := o1) (argsL := [(.long (f2 p1)), (.long (f2 p2)), (.long (f2 (f1_0 p1 p2 p3 p4))), (.long (f2 (f1_2 p1 p2 p3 p4)))]) (rest := [(.ref o1)]) (lenOf pd_2 rfl) rfl (by show 2 * 0 + _ ≤ _; exact Nat.le_of_eq rfl) (hb hby d1_48) (fun _ _ => ⟨rfl, e15, (by decide : 1 + 0 ≤ _), (by decide : 4 + 0 ≤ _)⟩)
  dsimp only [Pt.U, Pt.locs, Pt.cells, Pt.slots] at X16 l16 y16 z16 st16 hQ16
  subst l16 y16 z16
  obtain ⟨rfl, N16q, Kc16, c16_0, c16_1, c16_2, c16_3, c16_4⟩ := hQ16
  have N16 := Fr.app N15 N16q
  have u16_0 := A1.keep Kc16
  have K16 := K1.trans Kc16 (fun x hx => by cases List.mem_singleton.mp hx; exact Or.inr sz1)
  have Z16 : n0 ≤ T16.heap.size := Nat.le_trans Z1 Kc16.1
  obtain ⟨fs, hr, hrun, hended, hW, hsame⟩ := X16.leave (v := some (.ref o1)) (fun h => by rw [Bd.returns] at h; cases h)
  refine ⟨_, _, ?_, hrun, hended, _, _, rfl, ?_, ⟨_, rfl⟩, hW, hsame.mono (by decide) (by decide)⟩
  · show Steps p.tables e below (s₁.setTop (mkF m 0 #[.val (.int p1), .val (.int p2), .val (.int p3), .val (.int p4)] [])) _
    refine st1 _ ?_
    show Steps p.tables e below (T1.setTop (mkF m 3 #[.val (.int p1), .val (.int p2), .val (.int p3), .val (.int p4)] [(.ref o1)])) _
    refine XS.dup X1.here hx rfl (hb hby d1_3) rfl rfl ?_
    show Steps p.tables e below (T1.setTop (mkF m 4 #[.val (.int p1), .val (.int p2), .val (.int p3), .val (.int p4)] [(.ref o1), (.ref o1)])) _
    refine XS.iloadN X1.here hx rfl (hb hby d1_4) rfl ?_
    show Steps p.tables e below (T1.setTop (mkF m 5 #[.val (.int p1), .val (.int p2), .val (.int p3), .val (.int p4)] [(.int p1), (.ref o1), (.ref o1)])) _
    refine st2 _ ?_
    show Steps p.tables e below (T2.setTop (mkF m 8 #[.val (.int p1), .val (.int p2), .val (.int p3), .val (.int p4)] [(.long (f2 p1)), (.ref o1), (.ref o1)])) _
    refine XS.iloadN X2.here hx rfl (hb hby d1_8) rfl ?_
    show Steps p.tables e below (T2.setTop (mkF m 9 #[.val (.int p1), .val (.int p2), .val (.int p3), .val (.int p4)] [(.int p2), (.long (f2 p1)), (.ref o1), (.ref o1)])) _
    refine st3 _ ?_
    show Steps p.tables e below (T3.setTop (mkF m 12 #[.val (.int p1), .val (.int p2), .val (.int p3), .val (.int p4)] [(.long (f2 p2)), (.long (f2 p1)), (.ref o1), (.ref o1)])) _
    refine XS.iloadN X3.here hx rfl (hb hby d1_12) rfl ?_
    show Steps p.tables e below (T3.setTop (mkF m 13 #[.val (.int p1), .val (.int p2), .val (.int p3), .val (.int p4)] [(.int p2), (.long (f2 p2)), (.long (f2 p1)), (.ref o1), (.ref o1)])) _
    refine st7 _ ?_
    show Steps p.tables e below (T3.setTop (mkF m 25 #[.val (.int p1), .val (.int p2), .val (.int p3), .val (.int p4)] [(.int (f1_0 p1 p2 p3 p4)), (.long (f2 p2)), (.long (f2 p1)), (.ref o1), (.ref o1)])) _
    refine st8 _ ?_
    show Steps p.tables e below (T8.setTop (mkF m 28 #[.val (.int p1), .val (.int p2), .val (.int p3), .val (.int p4)] [(.long (f2 (f1_0 p1 p2 p3 p4))), (.long (f2 p2)), (.long (f2 p1)), (.ref o1), (.ref o1)])) _
    refine XS.iloadN X8.here hx rfl (hb hby d1_28) rfl ?_
    show Steps p.tables e below (T8.setTop (mkF m 29 #[.val (.int p1), .val (.int p2), .val (.int p3), .val (.int p4)] [(.int p2), (.long (f2 (f1_0 p1 p2 p3 p4))), (.long (f2 p2)), (.long (f2 p1)), (.ref o1), (.ref o1)])) _
    refine st14 _ ?_
    show Steps p.tables e below (T8.setTop (mkF m 45 #[.val (.int p1), .val (.int p2), .val (.int p3), .val (.int p4)] [(.int (f1_2 p1 p2 p3 p4)), (.long (f2 (f1_0 p1 p2 p3 p4))), (.long (f2 p2)), (.long (f2 p1)), (.ref o1), (.ref o1)])) _
    refine st15 _ ?_
    show Steps p.tables e below (T15.setTop (mkF m 48 #[.val (.int p1), .val (.int p2), .val (.int p3), .val (.int p4)] [(.long (f2 (f1_2 p1 p2 p3 p4))), (.long (f2 (f1_0 p1 p2 p3 p4))), (.long (f2 p2)), (.long (f2 p1)), (.ref o1), (.ref o1)])) _
    refine st16.trans ?_
    show Steps p.tables e below (T16.setTop (mkF m 51 #[.val (.int p1), .val (.int p2), .val (.int p3), .val (.int p4)] [(.ref o1)])) _
    jvm_step X16.here [X16.here.top, hx, (hb hby d1_51), X16.method', Bd.returns, Value.isRef, FieldType.isReference]
    first | (intro acts; rw [hr _ acts rfl rfl rfl]) | rw [hr _ _ rfl rfl rfl]
    exact Steps.refl _
  · show Q1 Z p1 p2 p3 p4 h0 n0 _ T16.heap _
    exact ⟨o1, rfl, N16, K16, sz1, c16_0, c16_1, c16_2, c16_3, c16_4⟩
theorem d6_0 : decode prog_26_method_10_code 0 = .ok (.aload_n 0, 1) := by decide +kernel
theorem d6_1 : decode prog_26_method_10_code 1 = .ok (.getfield 7, 3) := by decide +kernel
theorem d6_4 : decode prog_26_method_10_code 4 = .ok (.lreturn, 1) := by decide +kernel
theorem pn_6 : plainName "com/example/medspan/medspan/ProportionCounts" = true := by first | (simp [plainName, overriddenIn]; done) | decide +kernel
theorem ef_6 (m : MethodId) (a1 : Addr) : entryFrame m #[(.ref a1)] 1 = mkF m 0 #[.val (.ref a1)] [] := by first | (simp [entryFrame, mkF, argsToLocals, Value.category]; done) | rfl
def Q6 (Z : State) (a1 : Addr) (u1 : Int64) (u2 : Int64) (u3 : Int64) (u4 : Int64) (h0 : Heap) (n0 : Nat) (v : Option Value) (h : Heap) (L : List Loc) : Prop := v = some (.long (f6 u1 u2 u3 u4)) ∧ Fr n0 L ∧ h = h0
set_option maxRecDepth 65536 in
set_option maxHeartbeats 40000000 in
theorem rm6 (l : Launch) (Z : State) (a0 : Array Value) (hw : ∀ d ∈ tables_1, d.before a0 Z = true) (ws : List Jvm.Cond) (a1 : Addr) (u1 : Int64) (u2 : Int64) (u3 : Int64) (u4 : Int64) (h0 : Heap) (n0 : Nat) (Z0 : n0 ≤ h0.size) (F_a1_initialPopulation : Fld Z h0 a1 "com/example/medspan/medspan/ProportionCounts" "initialPopulation" "J" (.long u1)) (F_a1_denominator : Fld Z h0 a1 "com/example/medspan/medspan/ProportionCounts" "denominator" "J" (.long u2)) (F_a1_denominatorExclusion : Fld Z h0 a1 "com/example/medspan/medspan/ProportionCounts" "denominatorExclusion" "J" (.long u3)) (F_a1_numerator : Fld Z h0 a1 "com/example/medspan/medspan/ProportionCounts" "numerator" "J" (.long u4)) :
    MetFree l (⟨"com/example/medspan/medspan/ProportionCounts", "initialPopulation", "()J"⟩ : MethodName) (head1 (Jvm.Cond.code (⟨"com/example/medspan/medspan/ProportionCounts", "initialPopulation", "()J"⟩ : MethodName) prog_26_method_10_code 1 (some .long) :: ws) ({ frames := 0, cells := 0, slots := 0, locals := 0 } : Room)) (fun a U => a = #[(.ref a1)] ∧ Z.Warmed39 U.vm ∧ U.heap = h0) (fun _ _ _ _ _ => True) (fun _ U o U' => ∃ v L, o = .returned v ∧ Q6 Z a1 u1 u2 u3 u4 h0 n0 v U'.heap L ∧ FrameEnd U o U' L ({ frames := 0, cells := 0, slots := 0, locals := 0 } : Room).cells ({ frames := 0, cells := 0, slots := 0, locals := 0 } : Room).slots) := by
  refine MetFree.of_bodySF (plainFor_of_name pn_6) hisR ?_
  intro p e s m args below meth c s₁ Bd hml0 hP hK
  obtain ⟨rfl, hZ, hh⟩ := hP
  have hx := Bd.exec
  have hby := Bd.bytes
  have hml : c.maxLocals = 1 := hml0
  have hown : s.vm.findClass "com/example/medspan/medspan/ProportionCounts" = some m.cls := findClass_of_methodNamed Bd.named
  have hnm := (name_of_methodNamed Bd.named Bd.method).1
  have X0 : Stand p l e ({ frames := 0, cells := 0, slots := 0, locals := 0 } : Room) s m #[(.ref a1)] below meth c s₁ [] 0 0 := Stand.of_body Bd
  have e0 : s₁.heap = h0 := by rw [← hh, Bd.state]; rfl
  have N0 := Fr.nil n0
  have pre0 : ∀ t, Steps p.tables e below (s₁.setTop (mkF m 0 #[.val (.ref a1)] [])) t → Steps p.tables e below (s₁.setTop (entryFrame m #[(.ref a1)] 1)) t := fun t k => castTop (ef_6 m a1) k
  refine own_step (Q := fun o U' => ∃ v L, o = .returned v ∧ Q6 Z a1 u1 u2 u3 u4 h0 n0 v U'.heap L ∧ FrameEnd s o U' L ({ frames := 0, cells := 0, slots := 0, locals := 0 } : Room).cells ({ frames := 0, cells := 0, slots := 0, locals := 0 } : Room).slots) pre0 ?_
  obtain ⟨T1, X1, e1, st1⟩ := getF X0 hx hZ hown (host := "") (Or.inl (hw _ (List.mem_of_getElem? (i := 20) rfl))) Via.refl e0 F_a1_initialPopulation (g := (mkF m 1 #[.val (.ref a1)] [(.ref a1)])) rfl rfl (hb hby d6_1)
  obtain ⟨fs, hr, hrun, hended, hW, hsame⟩ := X1.leave (v := some (.long u1)) (fun h => by rw [Bd.returns] at h; cases h)
  refine ⟨_, _, ?_, hrun, hended, _, _, rfl, ?_, ⟨_, rfl⟩, hW, hsame.mono (by decide) (by decide)⟩
  · show Steps p.tables e below (s₁.setTop (mkF m 0 #[.val (.ref a1)] [])) _
    refine XS.aloadN X0.here hx rfl (hb hby d6_0) rfl rfl ?_
    show Steps p.tables e below (s₁.setTop (mkF m 1 #[.val (.ref a1)] [(.ref a1)])) _
    refine st1 _ ?_
    show Steps p.tables e below (T1.setTop (mkF m 4 #[.val (.ref a1)] [(.long u1)])) _
    jvm_step X1.here [X1.here.top, hx, (hb hby d6_4), X1.method', Bd.returns, narrow]
    first | (intro acts; rw [hr _ acts rfl rfl rfl]) | rw [hr _ _ rfl rfl rfl]
    exact Steps.refl _
  · show Q6 Z a1 u1 u2 u3 u4 h0 n0 _ T1.heap _
    rw [e1]
    have hf : f6 u1 u2 u3 u4 = u1 := rfl
    exact ⟨by rw [hf], N0, rfl⟩
theorem d8_0 : decode prog_26_method_11_code 0 = .ok (.aload_n 0, 1) := by decide +kernel
theorem d8_1 : decode prog_26_method_11_code 1 = .ok (.getfield 13, 3) := by decide +kernel
theorem d8_4 : decode prog_26_method_11_code 4 = .ok (.lreturn, 1) := by decide +kernel
theorem pn_8 : plainName "com/example/medspan/medspan/ProportionCounts" = true := by first | (simp [plainName, overriddenIn]; done) | decide +kernel
theorem ef_8 (m : MethodId) (a1 : Addr) : entryFrame m #[(.ref a1)] 1 = mkF m 0 #[.val (.ref a1)] [] := by first | (simp [entryFrame, mkF, argsToLocals, Value.category]; done) | rfl
def Q8 (Z : State) (a1 : Addr) (u1 : Int64) (u2 : Int64) (u3 : Int64) (u4 : Int64) (h0 : Heap) (n0 : Nat) (v : Option Value) (h : Heap) (L : List Loc) : Prop := v = some (.long (f8 u1 u2 u3 u4)) ∧ Fr n0 L ∧ h = h0
set_option maxRecDepth 65536 in
set_option maxHeartbeats 40000000 in
theorem rm8 (l : Launch) (Z : State) (a0 : Array Value) (hw : ∀ d ∈ tables_1, d.before a0 Z = true) (ws : List Jvm.Cond) (a1 : Addr) (u1 : Int64) (u2 : Int64) (u3 : Int64) (u4 : Int64) (h0 : Heap) (n0 : Nat) (Z0 : n0 ≤ h0.size) (F_a1_initialPopulation : Fld Z h0 a1 "com/example/medspan/medspan/ProportionCounts" "initialPopulation" "J" (.long u1)) (F_a1_denominator : Fld Z h0 a1 "com/example/medspan/medspan/ProportionCounts" "denominator" "J" (.long u2)) (F_a1_denominatorExclusion : Fld Z h0 a1 "com/example/medspan/medspan/ProportionCounts" "denominatorExclusion" "J" (.long u3)) (F_a1_numerator : Fld Z h0 a1 "com/example/medspan/medspan/ProportionCounts" "numerator" "J" (.long u4)) :
    MetFree l (⟨"com/example/medspan/medspan/ProportionCounts", "denominator", "()J"⟩ : MethodName) (head1 (Jvm.Cond.code (⟨"com/example/medspan/medspan/ProportionCounts", "denominator", "()J"⟩ : MethodName) prog_26_method_11_code 1 (some .long) :: ws) ({ frames := 0, cells := 0, slots := 0, locals := 0 } : Room)) (fun a U => a = #[(.ref a1)] ∧ Z.Warmed39 U.vm ∧ U.heap = h0) (fun _ _ _ _ _ => True) (fun _ U o U' => ∃ v L, o = .returned v ∧ Q8 Z a1 u1 u2 u3 u4 h0 n0 v U'.heap L ∧ FrameEnd U o U' L ({ frames := 0, cells := 0, slots := 0, locals := 0 } : Room).cells ({ frames := 0, cells := 0, slots := 0, locals := 0 } : Room).slots) := by
  refine MetFree.of_bodySF (plainFor_of_name pn_8) hisR ?_
  intro p e s m args below meth c s₁ Bd hml0 hP hK
  obtain ⟨rfl, hZ, hh⟩ := hP
  have hx := Bd.exec
  have hby := Bd.bytes
  have hml : c.maxLocals = 1 := hml0
  have hown : s.vm.findClass "com/example/medspan/medspan/ProportionCounts" = some m.cls := findClass_of_methodNamed Bd.named
  have hnm := (name_of_methodNamed Bd.named Bd.method).1
  have X0 : Stand p l e ({ frames := 0, cells := 0, slots := 0, locals := 0 } : Room) s m #[(.ref a1)] below meth c s₁ [] 0 0 := Stand.of_body Bd
  have e0 : s₁.heap = h0 := by rw [← hh, Bd.state]; rfl
  have N0 := Fr.nil n0
  have pre0 : ∀ t, Steps p.tables e below (s₁.setTop (mkF m 0 #[.val (.ref a1)] [])) t → Steps p.tables e below (s₁.setTop (entryFrame m #[(.ref a1)] 1)) t := fun t k => castTop (ef_8 m a1) k
  refine own_step (Q := fun o U' => ∃ v L, o = .returned v ∧ Q8 Z a1 u1 u2 u3 u4 h0 n0 v U'.heap L ∧ FrameEnd s o U' L ({ frames := 0, cells := 0, slots := 0, locals := 0 } : Room).cells ({ frames := 0, cells := 0, slots := 0, locals := 0 } : Room).slots) pre0 ?_
  obtain ⟨T1, X1, e1, st1⟩ := getF X0 hx hZ hown (host := "") (Or.inl (hw _ (List.mem_of_getElem? (i := 22) rfl))) Via.refl e0 F_a1_denominator (g := (mkF m 1 #[.val (.ref a1)] [(.ref a1)])) rfl rfl (hb hby d8_1)
  obtain ⟨fs, hr, hrun, hended, hW, hsame⟩ := X1.leave (v := some (.long u2)) (fun h => by rw [Bd.returns] at h; cases h)
  refine ⟨_, _, ?_, hrun, hended, _, _, rfl, ?_, ⟨_, rfl⟩, hW, hsame.mono (by decide) (by decide)⟩
  · show Steps p.tables e below (s₁.setTop (mkF m 0 #[.val (.ref a1)] [])) _
    refine XS.aloadN X0.here hx rfl (hb hby d8_0) rfl rfl ?_
    show Steps p.tables e below (s₁.setTop (mkF m 1 #[.val (.ref a1)] [(.ref a1)])) _
    refine st1 _ ?_
    show Steps p.tables e below (T1.setTop (mkF m 4 #[.val (.ref a1)] [(.long u2)])) _
    jvm_step X1.here [X1.here.top, hx, (hb hby d8_4), X1.method', Bd.returns, narrow]
    first | (intro acts; rw [hr _ acts rfl rfl rfl]) | rw [hr _ _ rfl rfl rfl]
    exact Steps.refl _
  · show Q8 Z a1 u1 u2 u3 u4 h0 n0 _ T1.heap _
    rw [e1]
    have hf : f8 u1 u2 u3 u4 = u2 := rfl
    exact ⟨by rw [hf], N0, rfl⟩
theorem d9_0 : decode prog_26_method_12_code 0 = .ok (.aload_n 0, 1) := by decide +kernel
theorem d9_1 : decode prog_26_method_12_code 1 = .ok (.getfield 16, 3) := by decide +kernel
theorem d9_4 : decode prog_26_method_12_code 4 = .ok (.lreturn, 1) := by decide +kernel
theorem pn_9 : plainName "com/example/medspan/medspan/ProportionCounts" = true := by first | (simp [plainName, overriddenIn]; done) | decide +kernel
theorem ef_9 (m : MethodId) (a1 : Addr) : entryFrame m #[(.ref a1)] 1 = mkF m 0 #[.val (.ref a1)] [] := by first | (simp [entryFrame, mkF, argsToLocals, Value.category]; done) | rfl
def Q9 (Z : State) (a1 : Addr) (u1 : Int64) (u2 : Int64) (u3 : Int64) (u4 : Int64) (h0 : Heap) (n0 : Nat) (v : Option Value) (h : Heap) (L : List Loc) : Prop := v = some (.long (f9 u1 u2 u3 u4)) ∧ Fr n0 L ∧ h = h0
set_option maxRecDepth 65536 in
set_option maxHeartbeats 40000000 in
theorem rm9 (l : Launch) (Z : State) (a0 : Array Value) (hw : ∀ d ∈ tables_1, d.before a0 Z = true) (ws : List Jvm.Cond) (a1 : Addr) (u1 : Int64) (u2 : Int64) (u3 : Int64) (u4 : Int64) (h0 : Heap) (n0 : Nat) (Z0 : n0 ≤ h0.size) (F_a1_initialPopulation : Fld Z h0 a1 "com/example/medspan/medspan/ProportionCounts" "initialPopulation" "J" (.long u1)) (F_a1_denominator : Fld Z h0 a1 "com/example/medspan/medspan/ProportionCounts" "denominator" "J" (.long u2)) (F_a1_denominatorExclusion : Fld Z h0 a1 "com/example/medspan/medspan/ProportionCounts" "denominatorExclusion" "J" (.long u3)) (F_a1_numerator : Fld Z h0 a1 "com/example/medspan/medspan/ProportionCounts" "numerator" "J" (.long u4)) :
    MetFree l (⟨"com/example/medspan/medspan/ProportionCounts", "denominatorExclusion", "()J"⟩ : MethodName) (head1 (Jvm.Cond.code (⟨"com/example/medspan/medspan/ProportionCounts", "denominatorExclusion", "()J"⟩ : MethodName) prog_26_method_12_code 1 (some .long) :: ws) ({ frames := 0, cells := 0, slots := 0, locals := 0 } : Room)) (fun a U => a = #[(.ref a1)] ∧ Z.Warmed39 U.vm ∧ U.heap = h0) (fun _ _ _ _ _ => True) (fun _ U o U' => ∃ v L, o = .returned v ∧ Q9 Z a1 u1 u2 u3 u4 h0 n0 v U'.heap L ∧ FrameEnd U o U' L ({ frames := 0, cells := 0, slots := 0, locals := 0 } : Room).cells ({ frames := 0, cells := 0, slots := 0, locals := 0 } : Room).slots) := by
  refine MetFree.of_bodySF (plainFor_of_name pn_9) hisR ?_
  intro p e s m args below meth c s₁ Bd hml0 hP hK
  obtain ⟨rfl, hZ, hh⟩ := hP
  have hx := Bd.exec
  have hby := Bd.bytes
  have hml : c.maxLocals = 1 := hml0
  have hown : s.vm.findClass "com/example/medspan/medspan/ProportionCounts" = some m.cls := findClass_of_methodNamed Bd.named
  have hnm := (name_of_methodNamed Bd.named Bd.method).1
  have X0 : Stand p l e ({ frames := 0, cells := 0, slots := 0, locals := 0 } : Room) s m #[(.ref a1)] below meth c s₁ [] 0 0 := Stand.of_body Bd
  have e0 : s₁.heap = h0 := by rw [← hh, Bd.state]; rfl
  have N0 := Fr.nil n0
  have pre0 : ∀ t, Steps p.tables e below (s₁.setTop (mkF m 0 #[.val (.ref a1)] [])) t → Steps p.tables e below (s₁.setTop (entryFrame m #[(.ref a1)] 1)) t := fun t k => castTop (ef_9 m a1) k
  refine own_step (Q := fun o U' => ∃ v L, o = .returned v ∧ Q9 Z a1 u1 u2 u3 u4 h0 n0 v U'.heap L ∧ FrameEnd s o U' L ({ frames := 0, cells := 0, slots := 0, locals := 0 } : Room).cells ({ frames := 0, cells := 0, slots := 0, locals := 0 } : Room).slots) pre0 ?_
  obtain ⟨T1, X1, e1, st1⟩ := getF X0 hx hZ hown (host := "") (Or.inl (hw _ (List.mem_of_getElem? (i := 24) rfl))) Via.refl e0 F_a1_denominatorExclusion (g := (mkF m 1 #[.val (.ref a1)] [(.ref a1)])) rfl rfl (hb hby d9_1)
  obtain ⟨fs, hr, hrun, hended, hW, hsame⟩ := X1.leave (v := some (.long u3)) (fun h => by rw [Bd.returns] at h; cases h)
  refine ⟨_, _, ?_, hrun, hended, _, _, rfl, ?_, ⟨_, rfl⟩, hW, hsame.mono (by decide) (by decide)⟩
  · show Steps p.tables e below (s₁.setTop (mkF m 0 #[.val (.ref a1)] [])) _
    refine XS.aloadN X0.here hx rfl (hb hby d9_0) rfl rfl ?_
    show Steps p.tables e below (s₁.setTop (mkF m 1 #[.val (.ref a1)] [(.ref a1)])) _
    refine st1 _ ?_
    show Steps p.tables e below (T1.setTop (mkF m 4 #[.val (.ref a1)] [(.long u3)])) _
    jvm_step X1.here [X1.here.top, hx, (hb hby d9_4), X1.method', Bd.returns, narrow]
    first | (intro acts; rw [hr _ acts rfl rfl rfl]) | rw [hr _ _ rfl rfl rfl]
    exact Steps.refl _
  · show Q9 Z a1 u1 u2 u3 u4 h0 n0 _ T1.heap _
    rw [e1]
    have hf : f9 u1 u2 u3 u4 = u3 := rfl
    exact ⟨by rw [hf], N0, rfl⟩
theorem d10_0 : decode prog_26_method_13_code 0 = .ok (.aload_n 0, 1) := by decide +kernel
theorem d10_1 : decode prog_26_method_13_code 1 = .ok (.getfield 19, 3) := by decide +kernel
theorem d10_4 : decode prog_26_method_13_code 4 = .ok (.lreturn, 1) := by decide +kernel
theorem pn_10 : plainName "com/example/medspan/medspan/ProportionCounts" = true := by first | (simp [plainName, overriddenIn]; done) | decide +kernel
theorem ef_10 (m : MethodId) (a1 : Addr) : entryFrame m #[(.ref a1)] 1 = mkF m 0 #[.val (.ref a1)] [] := by first | (simp [entryFrame, mkF, argsToLocals, Value.category]; done) | rfl
def Q10 (Z : State) (a1 : Addr) (u1 : Int64) (u2 : Int64) (u3 : Int64) (u4 : Int64) (h0 : Heap) (n0 : Nat) (v : Option Value) (h : Heap) (L : List Loc) : Prop := v = some (.long (f10 u1 u2 u3 u4)) ∧ Fr n0 L ∧ h = h0
set_option maxRecDepth 65536 in
set_option maxHeartbeats 40000000 in
theorem rm10 (l : Launch) (Z : State) (a0 : Array Value) (hw : ∀ d ∈ tables_1, d.before a0 Z = true) (ws : List Jvm.Cond) (a1 : Addr) (u1 : Int64) (u2 : Int64) (u3 : Int64) (u4 : Int64) (h0 : Heap) (n0 : Nat) (Z0 : n0 ≤ h0.size) (F_a1_initialPopulation : Fld Z h0 a1 "com/example/medspan/medspan/ProportionCounts" "initialPopulation" "J" (.long u1)) (F_a1_denominator : Fld Z h0 a1 "com/example/medspan/medspan/ProportionCounts" "denominator" "J" (.long u2)) (F_a1_denominatorExclusion : Fld Z h0 a1 "com/example/medspan/medspan/ProportionCounts" "denominatorExclusion" "J" (.long u3)) (F_a1_numerator : Fld Z h0 a1 "com/example/medspan/medspan/ProportionCounts" "numerator" "J" (.long u4)) :
    MetFree l (⟨"com/example/medspan/medspan/ProportionCounts", "numerator", "()J"⟩ : MethodName) (head1 (Jvm.Cond.code (⟨"com/example/medspan/medspan/ProportionCounts", "numerator", "()J"⟩ : MethodName) prog_26_method_13_code 1 (some .long) :: ws) ({ frames := 0, cells := 0, slots := 0, locals := 0 } : Room)) (fun a U => a = #[(.ref a1)] ∧ Z.Warmed39 U.vm ∧ U.heap = h0) (fun _ _ _ _ _ => True) (fun _ U o U' => ∃ v L, o = .returned v ∧ Q10 Z a1 u1 u2 u3 u4 h0 n0 v U'.heap L ∧ FrameEnd U o U' L ({ frames := 0, cells := 0, slots := 0, locals := 0 } : Room).cells ({ frames := 0, cells := 0, slots := 0, locals := 0 } : Room).slots) := by
  refine MetFree.of_bodySF (plainFor_of_name pn_10) hisR ?_
  intro p e s m args below meth c s₁ Bd hml0 hP hK
  obtain ⟨rfl, hZ, hh⟩ := hP
  have hx := Bd.exec
  have hby := Bd.bytes
  have hml : c.maxLocals = 1 := hml0
  have hown : s.vm.findClass "com/example/medspan/medspan/ProportionCounts" = some m.cls := findClass_of_methodNamed Bd.named
  have hnm := (name_of_methodNamed Bd.named Bd.method).1
  have X0 : Stand p l e ({ frames := 0, cells := 0, slots := 0, locals := 0 } : Room) s m #[(.ref a1)] below meth c s₁ [] 0 0 := Stand.of_body Bd
  have e0 : s₁.heap = h0 := by rw [← hh, Bd.state]; rfl
  have N0 := Fr.nil n0
  have pre0 : ∀ t, Steps p.tables e below (s₁.setTop (mkF m 0 #[.val (.ref a1)] [])) t → Steps p.tables e below (s₁.setTop (entryFrame m #[(.ref a1)] 1)) t := fun t k => castTop (ef_10 m a1) k
  refine own_step (Q := fun o U' => ∃ v L, o = .returned v ∧ Q10 Z a1 u1 u2 u3 u4 h0 n0 v U'.heap L ∧ FrameEnd s o U' L ({ frames := 0, cells := 0, slots := 0, locals := 0 } : Room).cells ({ frames := 0, cells := 0, slots := 0, locals := 0 } : Room).slots) pre0 ?_
  obtain ⟨T1, X1, e1, st1⟩ := getF X0 hx hZ hown (host := "") (Or.inl (hw _ (List.mem_of_getElem? (i := 26) rfl))) Via.refl e0 F_a1_numerator (g := (mkF m 1 #[.val (.ref a1)] [(.ref a1)])) rfl rfl (hb hby d10_1)
  obtain ⟨fs, hr, hrun, hended, hW, hsame⟩ := X1.leave (v := some (.long u4)) (fun h => by rw [Bd.returns] at h; cases h)
  refine ⟨_, _, ?_, hrun, hended, _, _, rfl, ?_, ⟨_, rfl⟩, hW, hsame.mono (by decide) (by decide)⟩
  · show Steps p.tables e below (s₁.setTop (mkF m 0 #[.val (.ref a1)] [])) _
    refine XS.aloadN X0.here hx rfl (hb hby d10_0) rfl rfl ?_
    show Steps p.tables e below (s₁.setTop (mkF m 1 #[.val (.ref a1)] [(.ref a1)])) _
    refine st1 _ ?_
    show Steps p.tables e below (T1.setTop (mkF m 4 #[.val (.ref a1)] [(.long u4)])) _
    jvm_step X1.here [X1.here.top, hx, (hb hby d10_4), X1.method', Bd.returns, narrow]
    first | (intro acts; rw [hr _ acts rfl rfl rfl]) | rw [hr _ _ rfl rfl rfl]
    exact Steps.refl _
  · show Q10 Z a1 u1 u2 u3 u4 h0 n0 _ T1.heap _
    rw [e1]
    have hf : f10 u1 u2 u3 u4 = u4 := rfl
    exact ⟨by rw [hf], N0, rfl⟩
theorem d7_0 : decode method_3_code 0 = .ok (.iload_n 2, 1) := by decide +kernel
theorem d7_1 : decode method_3_code 1 = .ok (.ifCond .eq 15, 3) := by decide +kernel
theorem d7_4 : decode method_3_code 4 = .ok (.lload_n 0, 1) := by decide +kernel
theorem d7_5 : decode method_3_code 5 = .ok (.lconst 1, 1) := by decide +kernel
theorem d7_6 : decode method_3_code 6 = .ok (.lcmp, 1) := by decide +kernel
theorem d7_7 : decode method_3_code 7 = .ok (.ifCond .ne 7, 3) := by decide +kernel
theorem d7_10 : decode method_3_code 10 = .ok (.iconst 1, 1) := by decide +kernel
theorem d7_11 : decode method_3_code 11 = .ok (.goto 4, 3) := by decide +kernel
theorem d7_14 : decode method_3_code 14 = .ok (.iconst 0, 1) := by decide +kernel
theorem d7_15 : decode method_3_code 15 = .ok (.ireturn, 1) := by decide +kernel
theorem d7_16 : decode method_3_code 16 = .ok (.lload_n 0, 1) := by decide +kernel
theorem d7_17 : decode method_3_code 17 = .ok (.lconst 0, 1) := by decide +kernel
theorem d7_18 : decode method_3_code 18 = .ok (.lcmp, 1) := by decide +kernel
theorem d7_19 : decode method_3_code 19 = .ok (.ifCond .ne 7, 3) := by decide +kernel
theorem d7_22 : decode method_3_code 22 = .ok (.iconst 1, 1) := by decide +kernel
theorem d7_23 : decode method_3_code 23 = .ok (.goto 4, 3) := by decide +kernel
theorem d7_26 : decode method_3_code 26 = .ok (.iconst 0, 1) := by decide +kernel
theorem d7_27 : decode method_3_code 27 = .ok (.ireturn, 1) := by decide +kernel
theorem pn_7 : plainName "com/example/medspan/medspan/ProportionCountsCountPinLaw" = true := by first | (simp [plainName, overriddenIn]; done) | decide +kernel
theorem ef_7 (m : MethodId) (q1 : Int64) (p2 : Int32) : entryFrame m #[(.long q1), (.int p2)] 3 = mkF m 0 #[.val (.long q1), .second, .val (.int p2)] [] := by first | (simp [entryFrame, mkF, argsToLocals, Value.category]; done) | rfl
def Q7 (Z : State) (q1 : Int64) (p2 : Int32) (h0 : Heap) (n0 : Nat) (v : Option Value) (h : Heap) (L : List Loc) : Prop := v = some (.int (f7 q1 p2)) ∧ Fr n0 L ∧ h = h0
set_option maxRecDepth 65536 in
set_option maxHeartbeats 40000000 in
theorem rm7 (l : Launch) (Z : State) (a0 : Array Value) (hw : ∀ d ∈ tables_1, d.before a0 Z = true) (ws : List Jvm.Cond) (q1 : Int64) (p2 : Int32) (h0 : Heap) (n0 : Nat) (Z0 : n0 ≤ h0.size) :
    MetFree l (⟨"com/example/medspan/medspan/ProportionCountsCountPinLaw", "counts", "(JZ)Z"⟩ : MethodName) (head1 (Jvm.Cond.code (⟨"com/example/medspan/medspan/ProportionCountsCountPinLaw", "counts", "(JZ)Z"⟩ : MethodName) method_3_code 3 (some .boolean) :: ws) ({ frames := 0, cells := 0, slots := 0, locals := 0 } : Room)) (fun a U => a = #[(.long q1), (.int p2)] ∧ Z.Warmed39 U.vm ∧ U.heap = h0) (fun _ _ _ _ _ => True) (fun _ U o U' => ∃ v L, o = .returned v ∧ Q7 Z q1 p2 h0 n0 v U'.heap L ∧ FrameEnd U o U' L ({ frames := 0, cells := 0, slots := 0, locals := 0 } : Room).cells ({ frames := 0, cells := 0, slots := 0, locals := 0 } : Room).slots) := by
  refine MetFree.of_bodySF (plainFor_of_name pn_7) hisR ?_
  intro p e s m args below meth c s₁ Bd hml0 hP hK
  obtain ⟨rfl, hZ, hh⟩ := hP
  have hx := Bd.exec
  have hby := Bd.bytes
  have hml : c.maxLocals = 3 := hml0
  have hown : s.vm.findClass "com/example/medspan/medspan/ProportionCountsCountPinLaw" = some m.cls := findClass_of_methodNamed Bd.named
  have hnm := (name_of_methodNamed Bd.named Bd.method).1
  have X0 : Stand p l e ({ frames := 0, cells := 0, slots := 0, locals := 0 } : Room) s m #[(.long q1), (.int p2)] below meth c s₁ [] 0 0 := Stand.of_body Bd
  have e0 : s₁.heap = h0 := by rw [← hh, Bd.state]; rfl
  have N0 := Fr.nil n0
  have pre0 : ∀ t, Steps p.tables e below (s₁.setTop (mkF m 0 #[.val (.long q1), .second, .val (.int p2)] [])) t → Steps p.tables e below (s₁.setTop (entryFrame m #[(.long q1), (.int p2)] 3)) t := fun t k => castTop (ef_7 m q1 p2) k
  refine own_step (Q := fun o U' => ∃ v L, o = .returned v ∧ Q7 Z q1 p2 h0 n0 v U'.heap L ∧ FrameEnd s o U' L ({ frames := 0, cells := 0, slots := 0, locals := 0 } : Room).cells ({ frames := 0, cells := 0, slots := 0, locals := 0 } : Room).slots) pre0 ?_
  refine own_step (B := s₁.setTop (mkF m 1 #[.val (.long q1), .second, .val (.int p2)] [(.int p2)])) (fun t k => ?_) ?_
  · show Steps p.tables e below (s₁.setTop (mkF m 0 #[.val (.long q1), .second, .val (.int p2)] [])) _
    refine XS.iloadN X0.here hx rfl (hb hby d7_0) rfl ?_
    exact k
  by_cases h1 : p2 = (0 : Int32)
  · have st3 : ∀ t, Steps p.tables e below (s₁.setTop (mkF m 27 #[.val (.long q1), .second, .val (.int p2)] [(.int (if q1 = (0 : Int64) then (1 : Int32) else (0 : Int32)))])) t → Steps p.tables e below (s₁.setTop (mkF m 19 #[.val (.long q1), .second, .val (.int p2)] [(.int (XT.cmpL q1 (0 : Int64)))])) t := by
      intro t k
      by_cases h2 : q1 = (0 : Int64)
      · rw [show (if q1 = (0 : Int64) then (1 : Int32) else (0 : Int32)) = (1 : Int32) from if_pos h2] at k
        show Steps p.tables e below (s₁.setTop (mkF m 19 #[.val (.long q1), .second, .val (.int p2)] [(.int (XT.cmpL q1 (0 : Int64)))])) _
        refine XS.ifNo X0.here hx rfl (hb hby d7_19) rfl ((if0 _ _).trans (teq ((own_ce _ _).mpr h2)).2) ?_
        show Steps p.tables e below (s₁.setTop (mkF m 22 #[.val (.long q1), .second, .val (.int p2)] [])) _
        refine XS.iconst X0.here hx rfl (hb hby d7_22) ?_
        show Steps p.tables e below (s₁.setTop (mkF m 23 #[.val (.long q1), .second, .val (.int p2)] [(.int (1 : Int32))])) _
        refine XS.goto X0.here hx rfl (pc0 := 23) (pc' := 27) rfl (hb hby d7_23) (by decide) (by decide) ?_
        exact k
      · rw [show (if q1 = (0 : Int64) then (1 : Int32) else (0 : Int32)) = (0 : Int32) from if_neg h2] at k
        show Steps p.tables e below (s₁.setTop (mkF m 19 #[.val (.long q1), .second, .val (.int p2)] [(.int (XT.cmpL q1 (0 : Int64)))])) _
        refine XS.ifYes X0.here hx rfl (pc0 := 19) (pc' := 26) rfl (hb hby d7_19) rfl ((if0 _ _).trans (feq (mt (own_ce _ _).mp h2)).2) (by decide) (by decide) ?_
        show Steps p.tables e below (s₁.setTop (mkF m 26 #[.val (.long q1), .second, .val (.int p2)] [])) _
        refine XS.iconst X0.here hx rfl (hb hby d7_26) ?_
        exact k
    obtain ⟨fs, hr, hrun, hended, hW, hsame⟩ := X0.leave (v := some (.int ((if q1 = (0 : Int64) then (1 : Int32) else (0 : Int32)) &&& 1))) (fun h => by rw [Bd.returns] at h; cases h)
    refine ⟨_, _, ?_, hrun, hended, _, _, rfl, ?_, ⟨_, rfl⟩, hW, hsame.mono (by decide) (by decide)⟩
    · show Steps p.tables e below (s₁.setTop (mkF m 1 #[.val (.long q1), .second, .val (.int p2)] [(.int p2)])) _
      refine XS.ifYes X0.here hx rfl (pc0 := 1) (pc' := 16) rfl (hb hby d7_1) rfl ((if0 _ _).trans (teq h1).1) (by decide) (by decide) ?_
      show Steps p.tables e below (s₁.setTop (mkF m 16 #[.val (.long q1), .second, .val (.int p2)] [])) _
      refine XT.lloadN X0.here hx rfl (hb hby d7_16) rfl ?_
      show Steps p.tables e below (s₁.setTop (mkF m 17 #[.val (.long q1), .second, .val (.int p2)] [(.long q1)])) _
      refine XT.lconst X0.here hx rfl (hb hby d7_17) ?_
      show Steps p.tables e below (s₁.setTop (mkF m 18 #[.val (.long q1), .second, .val (.int p2)] [(.long (0 : Int64)), (.long q1)])) _
      refine XT.lcmp X0.here hx rfl (hb hby d7_18) rfl ?_
      show Steps p.tables e below (s₁.setTop (mkF m 19 #[.val (.long q1), .second, .val (.int p2)] [(.int (XT.cmpL q1 (0 : Int64)))])) _
      refine st3 _ ?_
      show Steps p.tables e below (s₁.setTop (mkF m 27 #[.val (.long q1), .second, .val (.int p2)] [(.int (if q1 = (0 : Int64) then (1 : Int32) else (0 : Int32)))])) _
      exact retN X0 hx (t := .boolean) Bd.returns (by simp) (hb hby d7_27) hr
    · show Q7 Z q1 p2 h0 n0 _ s₁.heap _
      rw [e0]
      have hf : f7 q1 p2 = ((if q1 = (0 : Int64) then (1 : Int32) else (0 : Int32)) &&& 1) := by simp only [f7, if_pos h1]
      exact ⟨by rw [hf], N0, rfl⟩
  · have st5 : ∀ t, Steps p.tables e below (s₁.setTop (mkF m 15 #[.val (.long q1), .second, .val (.int p2)] [(.int (if q1 = (1 : Int64) then (1 : Int32) else (0 : Int32)))])) t → Steps p.tables e below (s₁.setTop (mkF m 7 #[.val (.long q1), .second, .val (.int p2)] [(.int (XT.cmpL q1 (1 : Int64)))])) t := by
      intro t k
      by_cases h4 : q1 = (1 : Int64)
      · rw [show (if q1 = (1 : Int64) then (1 : Int32) else (0 : Int32)) = (1 : Int32) from if_pos h4] at k
        show Steps p.tables e below (s₁.setTop (mkF m 7 #[.val (.long q1), .second, .val (.int p2)] [(.int (XT.cmpL q1 (1 : Int64)))])) _
        refine XS.ifNo X0.here hx rfl (hb hby d7_7) rfl ((if0 _ _).trans (teq ((own_ce _ _).mpr h4)).2) ?_
        show Steps p.tables e below (s₁.setTop (mkF m 10 #[.val (.long q1), .second, .val (.int p2)] [])) _
        refine XS.iconst X0.here hx rfl (hb hby d7_10) ?_
        show Steps p.tables e below (s₁.setTop (mkF m 11 #[.val (.long q1), .second, .val (.int p2)] [(.int (1 : Int32))])) _
        refine XS.goto X0.here hx rfl (pc0 := 11) (pc' := 15) rfl (hb hby d7_11) (by decide) (by decide) ?_
        exact k
      · rw [show (if q1 = (1 : Int64) then (1 : Int32) else (0 : Int32)) = (0 : Int32) from if_neg h4] at k
        show Steps p.tables e below (s₁.setTop (mkF m 7 #[.val (.long q1), .second, .val (.int p2)] [(.int (XT.cmpL q1 (1 : Int64)))])) _
        refine XS.ifYes X0.here hx rfl (pc0 := 7) (pc' := 14) rfl (hb hby d7_7) rfl ((if0 _ _).trans (feq (mt (own_ce _ _).mp h4)).2) (by decide) (by decide) ?_
        show Steps p.tables e below (s₁.setTop (mkF m 14 #[.val (.long q1), .second, .val (.int p2)] [])) _
        refine XS.iconst X0.here hx rfl (hb hby d7_14) ?_
        exact k
    obtain ⟨fs, hr, hrun, hended, hW, hsame⟩ := X0.leave (v := some (.int ((if q1 = (1 : Int64) then (1 : Int32) else (0 : Int32)) &&& 1))) (fun h => by rw [Bd.returns] at h; cases h)
    refine ⟨_, _, ?_, hrun, hended, _, _, rfl, ?_, ⟨_, rfl⟩, hW, hsame.mono (by decide) (by decide)⟩
    · show Steps p.tables e below (s₁.setTop (mkF m 1 #[.val (.long q1), .second, .val (.int p2)] [(.int p2)])) _
      refine XS.ifNo X0.here hx rfl (hb hby d7_1) rfl ((if0 _ _).trans (feq h1).1) ?_
      show Steps p.tables e below (s₁.setTop (mkF m 4 #[.val (.long q1), .second, .val (.int p2)] [])) _
      refine XT.lloadN X0.here hx rfl (hb hby d7_4) rfl ?_
      show Steps p.tables e below (s₁.setTop (mkF m 5 #[.val (.long q1), .second, .val (.int p2)] [(.long q1)])) _
      refine XT.lconst X0.here hx rfl (hb hby d7_5) ?_
      show Steps p.tables e below (s₁.setTop (mkF m 6 #[.val (.long q1), .second, .val (.int p2)] [(.long (1 : Int64)), (.long q1)])) _
      refine XT.lcmp X0.here hx rfl (hb hby d7_6) rfl ?_
      show Steps p.tables e below (s₁.setTop (mkF m 7 #[.val (.long q1), .second, .val (.int p2)] [(.int (XT.cmpL q1 (1 : Int64)))])) _
      refine st5 _ ?_
      show Steps p.tables e below (s₁.setTop (mkF m 15 #[.val (.long q1), .second, .val (.int p2)] [(.int (if q1 = (1 : Int64) then (1 : Int32) else (0 : Int32)))])) _
      exact retN X0 hx (t := .boolean) Bd.returns (by simp) (hb hby d7_15) hr
    · show Q7 Z q1 p2 h0 n0 _ s₁.heap _
      rw [e0]
      have hf : f7 q1 p2 = ((if q1 = (1 : Int64) then (1 : Int32) else (0 : Int32)) &&& 1) := by simp only [f7, if_neg h1]
      exact ⟨by rw [hf], N0, rfl⟩
theorem pn_0 : plainName "com/example/medspan/medspan/ProportionCountsCountPinLaw" = true := by first | (simp [plainName, overriddenIn]; done) | decide +kernel
theorem ef_0 (m : MethodId) (p1 : Int32) : entryFrame m #[(.int p1)] maxLocals = mkF m 0 #[.val (.int p1), .unset, .unset, .unset, .unset, .unset] [] := by first | (simp [entryFrame, mkF, argsToLocals, Value.category, maxLocals]; done) | rfl
def Q0 (Z : State) (p1 : Int32) (h0 : Heap) (n0 : Nat) (v : Option Value) (h : Heap) (L : List Loc) : Prop := v = some (.int (1 : Int32)) ∧ Fr n0 L
set_option maxRecDepth 65536 in
set_option maxHeartbeats 40000000 in
theorem rm0 (l : Launch) (Z : State) (a0 : Array Value) (hw : ∀ d ∈ tables_1, d.before a0 Z = true) (ws : List Jvm.Cond) (p1 : Int32) (h0 : Heap) (n0 : Nat) (Z0 : n0 ≤ h0.size) :
    MetFree l x (head1 (Jvm.Cond.code x code maxLocals ret :: ws) room_1) (fun a U => a = #[(.int p1)] ∧ Z.Warmed39 U.vm ∧ U.heap = h0) (fun _ _ _ _ _ => True) (fun _ U o U' => ∃ v L, o = .returned v ∧ Q0 Z p1 h0 n0 v U'.heap L ∧ FrameEnd U o U' L room_1.cells room_1.slots) := by
  refine MetFree.of_bodySF (plainFor_of_name pn_0) hisR ?_
  intro p e s m args below meth c s₁ Bd hml0 hP hK
  obtain ⟨rfl, hZ, hh⟩ := hP
  have hx := Bd.exec
  have hby := Bd.bytes
  have hml : c.maxLocals = 6 := hml0
  have hown : s.vm.findClass "com/example/medspan/medspan/ProportionCountsCountPinLaw" = some m.cls := findClass_of_methodNamed Bd.named
  have hnm := (name_of_methodNamed Bd.named Bd.method).1
  have X0 : Stand p l e room_1 s m #[(.int p1)] below meth c s₁ [] 0 0 := Stand.of_body Bd
  have e0 : s₁.heap = h0 := by rw [← hh, Bd.state]; rfl
  have N0 := Fr.nil n0
  have pre0 : ∀ t, Steps p.tables e below (s₁.setTop (mkF m 0 #[.val (.int p1), .unset, .unset, .unset, .unset, .unset] [])) t → Steps p.tables e below (s₁.setTop (entryFrame m #[(.int p1)] maxLocals)) t := fun t k => castTop (ef_0 m p1) k
  refine own_step (Q := fun o U' => ∃ v L, o = .returned v ∧ Q0 Z p1 h0 n0 v U'.heap L ∧ FrameEnd s o U' L room_1.cells room_1.slots) pre0 ?_
  have K0 : Keep h0 h0 [] := Keep.refl h0 []
  have st2 : ∀ t, Steps p.tables e below (s₁.setTop (mkF m 11 #[.val (.int p1), .unset, .unset, .unset, .unset, .unset] [(.int (f0_0 p1))])) t → Steps p.tables e below (s₁.setTop (mkF m 3 #[.val (.int p1), .unset, .unset, .unset, .unset, .unset] [(.int (p1 &&& (1 : Int32)))])) t := by
    intro t k
    by_cases h1 : (p1 &&& (1 : Int32)) = (0 : Int32)
    · rw [show (f0_0 p1) = (0 : Int32) from if_pos h1] at k
      show Steps p.tables e below (s₁.setTop (mkF m 3 #[.val (.int p1), .unset, .unset, .unset, .unset, .unset] [(.int (p1 &&& (1 : Int32)))])) _
      refine XS.ifYes X0.here hx rfl (pc0 := 3) (pc' := 10) rfl (hb hby at_3) rfl ((if0 _ _).trans (teq h1).1) (by decide) (by decide) ?_
      show Steps p.tables e below (s₁.setTop (mkF m 10 #[.val (.int p1), .unset, .unset, .unset, .unset, .unset] [])) _
      refine XS.iconst X0.here hx rfl (hb hby at_10) ?_
      exact k
    · rw [show (f0_0 p1) = (1 : Int32) from if_neg h1] at k
      show Steps p.tables e below (s₁.setTop (mkF m 3 #[.val (.int p1), .unset, .unset, .unset, .unset, .unset] [(.int (p1 &&& (1 : Int32)))])) _
      refine XS.ifNo X0.here hx rfl (hb hby at_3) rfl ((if0 _ _).trans (feq h1).1) ?_
      show Steps p.tables e below (s₁.setTop (mkF m 6 #[.val (.int p1), .unset, .unset, .unset, .unset, .unset] [])) _
      refine XS.iconst X0.here hx rfl (hb hby at_6) ?_
      show Steps p.tables e below (s₁.setTop (mkF m 7 #[.val (.int p1), .unset, .unset, .unset, .unset, .unset] [(.int (1 : Int32))])) _
      refine XS.goto X0.here hx rfl (pc0 := 7) (pc' := 11) rfl (hb hby at_7) (by decide) (by decide) ?_
      exact k
  have st4 : ∀ t, Steps p.tables e below (s₁.setTop (mkF m 23 #[.val (.int p1), .val (.int (f0_0 p1)), .unset, .unset, .unset, .unset] [(.int (f0_1 p1))])) t → Steps p.tables e below (s₁.setTop (mkF m 15 #[.val (.int p1), .val (.int (f0_0 p1)), .unset, .unset, .unset, .unset] [(.int (p1 &&& (2 : Int32)))])) t := by
    intro t k
    by_cases h3 : (p1 &&& (2 : Int32)) = (0 : Int32)
    · rw [show (f0_1 p1) = (0 : Int32) from if_pos h3] at k
      show Steps p.tables e below (s₁.setTop (mkF m 15 #[.val (.int p1), .val (.int (f0_0 p1)), .unset, .unset, .unset, .unset] [(.int (p1 &&& (2 : Int32)))])) _
      refine XS.ifYes X0.here hx rfl (pc0 := 15) (pc' := 22) rfl (hb hby at_15) rfl ((if0 _ _).trans (teq h3).1) (by decide) (by decide) ?_
      show Steps p.tables e below (s₁.setTop (mkF m 22 #[.val (.int p1), .val (.int (f0_0 p1)), .unset, .unset, .unset, .unset] [])) _
      refine XS.iconst X0.here hx rfl (hb hby at_22) ?_
      exact k
    · rw [show (f0_1 p1) = (1 : Int32) from if_neg h3] at k
      show Steps p.tables e below (s₁.setTop (mkF m 15 #[.val (.int p1), .val (.int (f0_0 p1)), .unset, .unset, .unset, .unset] [(.int (p1 &&& (2 : Int32)))])) _
      refine XS.ifNo X0.here hx rfl (hb hby at_15) rfl ((if0 _ _).trans (feq h3).1) ?_
      show Steps p.tables e below (s₁.setTop (mkF m 18 #[.val (.int p1), .val (.int (f0_0 p1)), .unset, .unset, .unset, .unset] [])) _
      refine XS.iconst X0.here hx rfl (hb hby at_18) ?_
      show Steps p.tables e below (s₁.setTop (mkF m 19 #[.val (.int p1), .val (.int (f0_0 p1)), .unset, .unset, .unset, .unset] [(.int (1 : Int32))])) _
      refine XS.goto X0.here hx rfl (pc0 := 19) (pc' := 23) rfl (hb hby at_19) (by decide) (by decide) ?_
      exact k
  have st6 : ∀ t, Steps p.tables e below (s₁.setTop (mkF m 35 #[.val (.int p1), .val (.int (f0_0 p1)), .val (.int (f0_1 p1)), .unset, .unset, .unset] [(.int (f0_2 p1))])) t → Steps p.tables e below (s₁.setTop (mkF m 27 #[.val (.int p1), .val (.int (f0_0 p1)), .val (.int (f0_1 p1)), .unset, .unset, .unset] [(.int (p1 &&& (4 : Int32)))])) t := by
    intro t k
    by_cases h5 : (p1 &&& (4 : Int32)) = (0 : Int32)
    · rw [show (f0_2 p1) = (0 : Int32) from if_pos h5] at k
      show Steps p.tables e below (s₁.setTop (mkF m 27 #[.val (.int p1), .val (.int (f0_0 p1)), .val (.int (f0_1 p1)), .unset, .unset, .unset] [(.int (p1 &&& (4 : Int32)))])) _
      refine XS.ifYes X0.here hx rfl (pc0 := 27) (pc' := 34) rfl (hb hby at_27) rfl ((if0 _ _).trans (teq h5).1) (by decide) (by decide) ?_
      show Steps p.tables e below (s₁.setTop (mkF m 34 #[.val (.int p1), .val (.int (f0_0 p1)), .val (.int (f0_1 p1)), .unset, .unset, .unset] [])) _
      refine XS.iconst X0.here hx rfl (hb hby at_34) ?_
      exact k
    · rw [show (f0_2 p1) = (1 : Int32) from if_neg h5] at k
      show Steps p.tables e below (s₁.setTop (mkF m 27 #[.val (.int p1), .val (.int (f0_0 p1)), .val (.int (f0_1 p1)), .unset, .unset, .unset] [(.int (p1 &&& (4 : Int32)))])) _
      refine XS.ifNo X0.here hx rfl (hb hby at_27) rfl ((if0 _ _).trans (feq h5).1) ?_
      show Steps p.tables e below (s₁.setTop (mkF m 30 #[.val (.int p1), .val (.int (f0_0 p1)), .val (.int (f0_1 p1)), .unset, .unset, .unset] [])) _
      refine XS.iconst X0.here hx rfl (hb hby at_30) ?_
      show Steps p.tables e below (s₁.setTop (mkF m 31 #[.val (.int p1), .val (.int (f0_0 p1)), .val (.int (f0_1 p1)), .unset, .unset, .unset] [(.int (1 : Int32))])) _
      refine XS.goto X0.here hx rfl (pc0 := 31) (pc' := 35) rfl (hb hby at_31) (by decide) (by decide) ?_
      exact k
  have st8 : ∀ t, Steps p.tables e below (s₁.setTop (mkF m 48 #[.val (.int p1), .val (.int (f0_0 p1)), .val (.int (f0_1 p1)), .val (.int (f0_2 p1)), .unset, .unset] [(.int (f0_3 p1))])) t → Steps p.tables e below (s₁.setTop (mkF m 40 #[.val (.int p1), .val (.int (f0_0 p1)), .val (.int (f0_1 p1)), .val (.int (f0_2 p1)), .unset, .unset] [(.int (p1 &&& (8 : Int32)))])) t := by
    intro t k
    by_cases h7 : (p1 &&& (8 : Int32)) = (0 : Int32)
    · rw [show (f0_3 p1) = (0 : Int32) from if_pos h7] at k
      show Steps p.tables e below (s₁.setTop (mkF m 40 #[.val (.int p1), .val (.int (f0_0 p1)), .val (.int (f0_1 p1)), .val (.int (f0_2 p1)), .unset, .unset] [(.int (p1 &&& (8 : Int32)))])) _
      refine XS.ifYes X0.here hx rfl (pc0 := 40) (pc' := 47) rfl (hb hby at_40) rfl ((if0 _ _).trans (teq h7).1) (by decide) (by decide) ?_
      show Steps p.tables e below (s₁.setTop (mkF m 47 #[.val (.int p1), .val (.int (f0_0 p1)), .val (.int (f0_1 p1)), .val (.int (f0_2 p1)), .unset, .unset] [])) _
      refine XS.iconst X0.here hx rfl (hb hby at_47) ?_
      exact k
    · rw [show (f0_3 p1) = (1 : Int32) from if_neg h7] at k
      show Steps p.tables e below (s₁.setTop (mkF m 40 #[.val (.int p1), .val (.int (f0_0 p1)), .val (.int (f0_1 p1)), .val (.int (f0_2 p1)), .unset, .unset] [(.int (p1 &&& (8 : Int32)))])) _
      refine XS.ifNo X0.here hx rfl (hb hby at_40) rfl ((if0 _ _).trans (feq h7).1) ?_
      show Steps p.tables e below (s₁.setTop (mkF m 43 #[.val (.int p1), .val (.int (f0_0 p1)), .val (.int (f0_1 p1)), .val (.int (f0_2 p1)), .unset, .unset] [])) _
      refine XS.iconst X0.here hx rfl (hb hby at_43) ?_
      show Steps p.tables e below (s₁.setTop (mkF m 44 #[.val (.int p1), .val (.int (f0_0 p1)), .val (.int (f0_1 p1)), .val (.int (f0_2 p1)), .unset, .unset] [(.int (1 : Int32))])) _
      refine XS.goto X0.here hx rfl (pc0 := 44) (pc' := 48) rfl (hb hby at_44) (by decide) (by decide) ?_
      exact k
  obtain ⟨_, _, ⟨T9, L9, k9, n9⟩, -, X9, ⟨Lc9, hQ9, l9, y9, z9⟩, st9⟩ := Jvm.LawKit.callS X0 hx (y := (⟨"com/example/medspan/medspan/ProportionCounts", "of", "(ZZZZ)Lcom/example/medspan/medspan/ProportionCounts;"⟩ : MethodName)) hown (mvT hZ (hw _ (List.mem_of_getElem? (i := 0) rfl))) (mvT hZ (hw _ (List.mem_of_getElem? (i := 1) rfl))) (mvT hZ (hw _ (List.mem_of_getElem? (i := 2) rfl))) (mvT hZ (hw _ (List.mem_of_getElem? (i := 3) rfl))) (by decide) (backOf (W := 0) (rm1 l Z a0 hw [] (f0_0 p1) (f0_1 p1) (f0_2 p1) (f0_3 p1) h0 n0 Z0) hZ (hw _ (List.mem_of_getElem? (i := 3) rfl)) (hw _ (List.mem_of_getElem? (i := 2) rfl)) (by decide) (by decide)) (g := (mkF m 55 #[.val (.int p1), .val (.int (f0_0 p1)), .val (.int (f0_1 p1)), .val (.int (f0_2 p1)), .val (.int (f0_3 p1)), .unset] [(.int (f0_3 p1)), (.int (f0_2 p1)), (.int (f0_1 p1)), (.int (f0_0 p1))])) rfl (by rw [hml]; rfl) (argsL := [(.int (f0_0 p1)), (.int (f0_1 p1)), (.int (f0_2 p1)), (.int (f0_3 p1))]) (rest := []) (lenOf pd_3 rfl) rfl (by show 2 * 0 + _ ≤ _; exact Nat.le_of_eq rfl) (hb hby at_55) (fun _ _ => ⟨rfl, e0, (by decide : 0 + 1 ≤ _), (by decide : 0 + 4 ≤ _)⟩)
  dsimp only [Pt.U, Pt.locs, Pt.cells, Pt.slots] at X9 l9 y9 z9 st9 hQ9
  subst l9 y9 z9
  obtain ⟨r9, rfl, N9q, Kc9, fr9_r, c9_0, c9_1, c9_2, c9_3, c9_4⟩ := hQ9
  have N9 := Fr.app N0 N9q
  have ge9_r : n0 ≤ r9 := Nat.le_trans Z0 fr9_r
  have sz9_r : h0.size ≤ r9 := Nat.le_trans K0.1 fr9_r
  have K9 := K0.trans Kc9 (fun x hx => absurd hx List.not_mem_nil)
  have Z9 : n0 ≤ T9.heap.size := Nat.le_trans Z0 Kc9.1
  obtain ⟨cq10, kq10, q10a, q10b, q10c⟩ := isOf hZ rfl c9_0
  obtain ⟨_, _, ⟨T10, L10, k10, n10⟩, -, X10, ⟨Lc10, hQ10, l10, y10, z10⟩, st10⟩ := X9.virtualBack hx (y := (⟨"com/example/medspan/medspan/ProportionCounts", "initialPopulation", "()J"⟩ : MethodName)) (z := (⟨"com/example/medspan/medspan/ProportionCounts", "initialPopulation", "()J"⟩ : MethodName)) hown (mvT hZ (hw _ (List.mem_of_getElem? (i := 28) rfl))) (mvT hZ (hw _ (List.mem_of_getElem? (i := 29) rfl))) (notFace_of_selects (args := #[]) (mvT hZ (hw _ (List.mem_of_getElem? (i := 31) rfl)))) (mvT hZ (hw _ (List.mem_of_getElem? (i := 31) rfl))) (mvT hZ (hw _ (List.mem_of_getElem? (i := 30) rfl))) (by decide) (backOf (W := 0) (rm6 l Z a0 hw [] r9 (f2 (f0_0 p1)) (f2 (f0_1 p1)) (f2 (f1_0 (f0_0 p1) (f0_1 p1) (f0_2 p1) (f0_3 p1))) (f2 (f1_2 (f0_0 p1) (f0_1 p1) (f0_2 p1) (f0_3 p1))) T9.heap n0 Z9 c9_3 c9_1 c9_2 c9_4) hZ (hw _ (List.mem_of_getElem? (i := 32) rfl)) (hw _ (List.mem_of_getElem? (i := 2) rfl)) (by decide) (by decide)) q10a q10c (g := (mkF m 62 #[.val (.int p1), .val (.int (f0_0 p1)), .val (.int (f0_1 p1)), .val (.int (f0_2 p1)), .val (.int (f0_3 p1)), .val (.ref r9)] [(.ref r9)])) rfl (by rw [hml]; rfl) (Steps.refl _) (argsL := []) (rest := []) (lenOf pd_4 rfl) rfl (by show 2 * 0 + _ ≤ _; exact Nat.le_of_eq rfl) (hb hby at_62) (fun _ _ => ⟨rfl, rfl, (by decide : 1 + 0 ≤ _), (by decide : 4 + 0 ≤ _)⟩)
  dsimp only [Pt.U, Pt.locs, Pt.cells, Pt.slots] at X10 l10 y10 z10 st10 hQ10
  subst l10 y10 z10
  obtain ⟨rfl, N10q, e10⟩ := hQ10
  have N10 := Fr.app N9 N10q
  obtain ⟨_, _, ⟨T11, L11, k11, n11⟩, -, X11, ⟨Lc11, hQ11, l11, y11, z11⟩, st11⟩ := Jvm.LawKit.callS X10 hx (y := (⟨"com/example/medspan/medspan/ProportionCountsCountPinLaw", "counts", "(JZ)Z"⟩ : MethodName)) hown (mvT hZ (hw _ (List.mem_of_getElem? (i := 33) rfl))) (mvT hZ (hw _ (List.mem_of_getElem? (i := 34) rfl))) (mvT hZ (hw _ (List.mem_of_getElem? (i := 35) rfl))) (mvT hZ (hw _ (List.mem_of_getElem? (i := 36) rfl))) (by decide) (backOf (W := 0) (rm7 l Z a0 hw [] (f0_4 p1) (f0_0 p1) T9.heap n0 Z9) hZ (hw _ (List.mem_of_getElem? (i := 36) rfl)) (hw _ (List.mem_of_getElem? (i := 35) rfl)) (by decide) (by decide)) (g := (mkF m 66 #[.val (.int p1), .val (.int (f0_0 p1)), .val (.int (f0_1 p1)), .val (.int (f0_2 p1)), .val (.int (f0_3 p1)), .val (.ref r9)] [(.int (f0_0 p1)), (.long (f0_4 p1))])) rfl (by rw [hml]; rfl) (argsL := [(.long (f0_4 p1)), (.int (f0_0 p1))]) (rest := []) (lenOf pd_5 rfl) rfl (by show 2 * 0 + _ ≤ _; exact Nat.le_of_eq rfl) (hb hby at_66) (fun _ _ => ⟨rfl, e10, (by decide : 1 + 0 ≤ _), (by decide : 4 + 0 ≤ _)⟩)
  dsimp only [Pt.U, Pt.locs, Pt.cells, Pt.slots] at X11 l11 y11 z11 st11 hQ11
  subst l11 y11 z11
  obtain ⟨rfl, N11q, e11⟩ := hQ11
  have N11 := Fr.app N10 N11q
  obtain ⟨T35, lo35, X35, e35, N35, st35⟩ : ∃ (T' : State) (lo : List Loc) (_ : Stand p l e room_1 s m #[(.int p1)] below meth c T' lo 1 4), T'.heap = T9.heap ∧ Fr n0 lo ∧ ∀ t, Steps p.tables e below (T'.setTop (mkF m 142 #[.val (.int p1), .val (.int (f0_0 p1)), .val (.int (f0_1 p1)), .val (.int (f0_2 p1)), .val (.int (f0_3 p1)), .val (.ref r9)] [(.int (f0_16 p1))])) t → Steps p.tables e below (T11.setTop (mkF m 69 #[.val (.int p1), .val (.int (f0_0 p1)), .val (.int (f0_1 p1)), .val (.int (f0_2 p1)), .val (.int (f0_3 p1)), .val (.ref r9)] [(.int (f7 (f0_4 p1) (f0_0 p1)))])) t := by
    by_cases h12 : (f7 (f0_4 p1) (f0_0 p1)) = (0 : Int32)
    · refine ⟨T11, _, X11, e11, N11, fun t k => ?_⟩
      rw [show (f0_16 p1) = (0 : Int32) from if_pos h12] at k
      show Steps p.tables e below (T11.setTop (mkF m 69 #[.val (.int p1), .val (.int (f0_0 p1)), .val (.int (f0_1 p1)), .val (.int (f0_2 p1)), .val (.int (f0_3 p1)), .val (.ref r9)] [(.int (f7 (f0_4 p1) (f0_0 p1)))])) _
      refine XS.ifYes X11.here hx rfl (pc0 := 69) (pc' := 141) rfl (hb hby at_69) rfl ((if0 _ _).trans (teq h12).1) (by decide) (by decide) ?_
      show Steps p.tables e below (T11.setTop (mkF m 141 #[.val (.int p1), .val (.int (f0_0 p1)), .val (.int (f0_1 p1)), .val (.int (f0_2 p1)), .val (.int (f0_3 p1)), .val (.ref r9)] [])) _
      refine XS.iconst X11.here hx rfl (hb hby at_141) ?_
      exact k
    · obtain ⟨cq13, kq13, q13a, q13b, q13c⟩ := isOf hZ e11 c9_0
      obtain ⟨_, _, ⟨T13, L13, k13, n13⟩, -, X13, ⟨Lc13, hQ13, l13, y13, z13⟩, st13⟩ := X11.virtualBack hx (y := (⟨"com/example/medspan/medspan/ProportionCounts", "denominator", "()J"⟩ : MethodName)) (z := (⟨"com/example/medspan/medspan/ProportionCounts", "denominator", "()J"⟩ : MethodName)) hown (mvT hZ (hw _ (List.mem_of_getElem? (i := 37) rfl))) (mvT hZ (hw _ (List.mem_of_getElem? (i := 38) rfl))) (notFace_of_selects (args := #[]) (mvT hZ (hw _ (List.mem_of_getElem? (i := 40) rfl)))) (mvT hZ (hw _ (List.mem_of_getElem? (i := 40) rfl))) (mvT hZ (hw _ (List.mem_of_getElem? (i := 39) rfl))) (by decide) (backOf (W := 0) (rm8 l Z a0 hw [] r9 (f2 (f0_0 p1)) (f2 (f0_1 p1)) (f2 (f1_0 (f0_0 p1) (f0_1 p1) (f0_2 p1) (f0_3 p1))) (f2 (f1_2 (f0_0 p1) (f0_1 p1) (f0_2 p1) (f0_3 p1))) T9.heap n0 Z9 c9_3 c9_1 c9_2 c9_4) hZ (hw _ (List.mem_of_getElem? (i := 41) rfl)) (hw _ (List.mem_of_getElem? (i := 2) rfl)) (by decide) (by decide)) q13a q13c (g := (mkF m 74 #[.val (.int p1), .val (.int (f0_0 p1)), .val (.int (f0_1 p1)), .val (.int (f0_2 p1)), .val (.int (f0_3 p1)), .val (.ref r9)] [(.ref r9)])) rfl (by rw [hml]; rfl) (Steps.refl _) (argsL := []) (rest := []) (lenOf pd_4 rfl) rfl (by show 2 * 0 + _ ≤ _; exact Nat.le_of_eq rfl) (hb hby at_74) (fun _ _ => ⟨rfl, e11, (by decide : 1 + 0 ≤ _), (by decide : 4 + 0 ≤ _)⟩)
      dsimp only [Pt.U, Pt.locs, Pt.cells, Pt.slots] at X13 l13 y13 z13 st13 hQ13
      subst l13 y13 z13
      obtain ⟨rfl, N13q, e13⟩ := hQ13
      have N13 := Fr.app N11 N13q
      obtain ⟨_, _, ⟨T14, L14, k14, n14⟩, -, X14, ⟨Lc14, hQ14, l14, y14, z14⟩, st14⟩ := Jvm.LawKit.callS X13 hx (y := (⟨"com/example/medspan/medspan/ProportionCountsCountPinLaw", "counts", "(JZ)Z"⟩ : MethodName)) hown (mvT hZ (hw _ (List.mem_of_getElem? (i := 33) rfl))) (mvT hZ (hw _ (List.mem_of_getElem? (i := 34) rfl))) (mvT hZ (hw _ (List.mem_of_getElem? (i := 35) rfl))) (mvT hZ (hw _ (List.mem_of_getElem? (i := 36) rfl))) (by decide) (backOf (W := 0) (rm7 l Z a0 hw [] (f0_5 p1) (f0_1 p1) T9.heap n0 Z9) hZ (hw _ (List.mem_of_getElem? (i := 36) rfl)) (hw _ (List.mem_of_getElem? (i := 35) rfl)) (by decide) (by decide)) (g := (mkF m 78 #[.val (.int p1), .val (.int (f0_0 p1)), .val (.int (f0_1 p1)), .val (.int (f0_2 p1)), .val (.int (f0_3 p1)), .val (.ref r9)] [(.int (f0_1 p1)), (.long (f0_5 p1))])) rfl (by rw [hml]; rfl) (argsL := [(.long (f0_5 p1)), (.int (f0_1 p1))]) (rest := []) (lenOf pd_5 rfl) rfl (by show 2 * 0 + _ ≤ _; exact Nat.le_of_eq rfl) (hb hby at_78) (fun _ _ => ⟨rfl, e13, (by decide : 1 + 0 ≤ _), (by decide : 4 + 0 ≤ _)⟩)
      dsimp only [Pt.U, Pt.locs, Pt.cells, Pt.slots] at X14 l14 y14 z14 st14 hQ14
      subst l14 y14 z14
      obtain ⟨rfl, N14q, e14⟩ := hQ14
      have N14 := Fr.app N13 N14q
      obtain ⟨T34, lo34, X34, e34, N34, st34⟩ : ∃ (T' : State) (lo : List Loc) (_ : Stand p l e room_1 s m #[(.int p1)] below meth c T' lo 1 4), T'.heap = T9.heap ∧ Fr n0 lo ∧ ∀ t, Steps p.tables e below (T'.setTop (mkF m 142 #[.val (.int p1), .val (.int (f0_0 p1)), .val (.int (f0_1 p1)), .val (.int (f0_2 p1)), .val (.int (f0_3 p1)), .val (.ref r9)] [(.int (f0_15 p1))])) t → Steps p.tables e below (T14.setTop (mkF m 81 #[.val (.int p1), .val (.int (f0_0 p1)), .val (.int (f0_1 p1)), .val (.int (f0_2 p1)), .val (.int (f0_3 p1)), .val (.ref r9)] [(.int (f7 (f0_5 p1) (f0_1 p1)))])) t := by
        by_cases h15 : (f7 (f0_5 p1) (f0_1 p1)) = (0 : Int32)
        · refine ⟨T14, _, X14, e14, N14, fun t k => ?_⟩
          rw [show (f0_15 p1) = (0 : Int32) from if_pos h15] at k
          show Steps p.tables e below (T14.setTop (mkF m 81 #[.val (.int p1), .val (.int (f0_0 p1)), .val (.int (f0_1 p1)), .val (.int (f0_2 p1)), .val (.int (f0_3 p1)), .val (.ref r9)] [(.int (f7 (f0_5 p1) (f0_1 p1)))])) _
          refine XS.ifYes X14.here hx rfl (pc0 := 81) (pc' := 141) rfl (hb hby at_81) rfl ((if0 _ _).trans (teq h15).1) (by decide) (by decide) ?_
          show Steps p.tables e below (T14.setTop (mkF m 141 #[.val (.int p1), .val (.int (f0_0 p1)), .val (.int (f0_1 p1)), .val (.int (f0_2 p1)), .val (.int (f0_3 p1)), .val (.ref r9)] [])) _
          refine XS.iconst X14.here hx rfl (hb hby at_141) ?_
          exact k
        · obtain ⟨cq16, kq16, q16a, q16b, q16c⟩ := isOf hZ e14 c9_0
          obtain ⟨_, _, ⟨T16, L16, k16, n16⟩, -, X16, ⟨Lc16, hQ16, l16, y16, z16⟩, st16⟩ := X14.virtualBack hx (y := (⟨"com/example/medspan/medspan/ProportionCounts", "denominatorExclusion", "()J"⟩ : MethodName)) (z := (⟨"com/example/medspan/medspan/ProportionCounts", "denominatorExclusion", "()J"⟩ : MethodName)) hown (mvT hZ (hw _ (List.mem_of_getElem? (i := 42) rfl))) (mvT hZ (hw _ (List.mem_of_getElem? (i := 43) rfl))) (notFace_of_selects (args := #[]) (mvT hZ (hw _ (List.mem_of_getElem? (i := 45) rfl)))) (mvT hZ (hw _ (List.mem_of_getElem? (i := 45) rfl))) (mvT hZ (hw _ (List.mem_of_getElem? (i := 44) rfl))) (by decide) (backOf (W := 0) (rm9 l Z a0 hw [] r9 (f2 (f0_0 p1)) (f2 (f0_1 p1)) (f2 (f1_0 (f0_0 p1) (f0_1 p1) (f0_2 p1) (f0_3 p1))) (f2 (f1_2 (f0_0 p1) (f0_1 p1) (f0_2 p1) (f0_3 p1))) T9.heap n0 Z9 c9_3 c9_1 c9_2 c9_4) hZ (hw _ (List.mem_of_getElem? (i := 46) rfl)) (hw _ (List.mem_of_getElem? (i := 2) rfl)) (by decide) (by decide)) q16a q16c (g := (mkF m 86 #[.val (.int p1), .val (.int (f0_0 p1)), .val (.int (f0_1 p1)), .val (.int (f0_2 p1)), .val (.int (f0_3 p1)), .val (.ref r9)] [(.ref r9)])) rfl (by rw [hml]; rfl) (Steps.refl _) (argsL := []) (rest := []) (lenOf pd_4 rfl) rfl (by show 2 * 0 + _ ≤ _; exact Nat.le_of_eq rfl) (hb hby at_86) (fun _ _ => ⟨rfl, e14, (by decide : 1 + 0 ≤ _), (by decide : 4 + 0 ≤ _)⟩)
          dsimp only [Pt.U, Pt.locs, Pt.cells, Pt.slots] at X16 l16 y16 z16 st16 hQ16
          subst l16 y16 z16
          obtain ⟨rfl, N16q, e16⟩ := hQ16
          have N16 := Fr.app N14 N16q
          have st20 : ∀ t, Steps p.tables e below (T16.setTop (mkF m 102 #[.val (.int p1), .val (.int (f0_0 p1)), .val (.int (f0_1 p1)), .val (.int (f0_2 p1)), .val (.int (f0_3 p1)), .val (.ref r9)] [(.int (if (f0_1 p1) = (0 : Int32) then (0 : Int32) else (f0_7 p1))), (.long (f0_6 p1))])) t → Steps p.tables e below (T16.setTop (mkF m 90 #[.val (.int p1), .val (.int (f0_0 p1)), .val (.int (f0_1 p1)), .val (.int (f0_2 p1)), .val (.int (f0_3 p1)), .val (.ref r9)] [(.int (f0_1 p1)), (.long (f0_6 p1))])) t := by
            intro t k
            by_cases h17 : (f0_1 p1) = (0 : Int32)
            · rw [show (if (f0_1 p1) = (0 : Int32) then (0 : Int32) else (f0_7 p1)) = (0 : Int32) from if_pos h17] at k
              show Steps p.tables e below (T16.setTop (mkF m 90 #[.val (.int p1), .val (.int (f0_0 p1)), .val (.int (f0_1 p1)), .val (.int (f0_2 p1)), .val (.int (f0_3 p1)), .val (.ref r9)] [(.int (f0_1 p1)), (.long (f0_6 p1))])) _
              refine XS.ifYes X16.here hx rfl (pc0 := 90) (pc' := 101) rfl (hb hby at_90) rfl ((if0 _ _).trans (teq h17).1) (by decide) (by decide) ?_
              show Steps p.tables e below (T16.setTop (mkF m 101 #[.val (.int p1), .val (.int (f0_0 p1)), .val (.int (f0_1 p1)), .val (.int (f0_2 p1)), .val (.int (f0_3 p1)), .val (.ref r9)] [(.long (f0_6 p1))])) _
              refine XS.iconst X16.here hx rfl (hb hby at_101) ?_
              exact k
            · have st19 : ∀ t, Steps p.tables e below (T16.setTop (mkF m 102 #[.val (.int p1), .val (.int (f0_0 p1)), .val (.int (f0_1 p1)), .val (.int (f0_2 p1)), .val (.int (f0_3 p1)), .val (.ref r9)] [(.int (f0_7 p1)), (.long (f0_6 p1))])) t → Steps p.tables e below (T16.setTop (mkF m 94 #[.val (.int p1), .val (.int (f0_0 p1)), .val (.int (f0_1 p1)), .val (.int (f0_2 p1)), .val (.int (f0_3 p1)), .val (.ref r9)] [(.int (f0_2 p1)), (.long (f0_6 p1))])) t := by
                intro t k
                by_cases h18 : (f0_2 p1) = (0 : Int32)
                · rw [show (f0_7 p1) = (0 : Int32) from if_pos h18] at k
                  show Steps p.tables e below (T16.setTop (mkF m 94 #[.val (.int p1), .val (.int (f0_0 p1)), .val (.int (f0_1 p1)), .val (.int (f0_2 p1)), .val (.int (f0_3 p1)), .val (.ref r9)] [(.int (f0_2 p1)), (.long (f0_6 p1))])) _
                  refine XS.ifYes X16.here hx rfl (pc0 := 94) (pc' := 101) rfl (hb hby at_94) rfl ((if0 _ _).trans (teq h18).1) (by decide) (by decide) ?_
                  show Steps p.tables e below (T16.setTop (mkF m 101 #[.val (.int p1), .val (.int (f0_0 p1)), .val (.int (f0_1 p1)), .val (.int (f0_2 p1)), .val (.int (f0_3 p1)), .val (.ref r9)] [(.long (f0_6 p1))])) _
                  refine XS.iconst X16.here hx rfl (hb hby at_101) ?_
                  exact k
                · rw [show (f0_7 p1) = (1 : Int32) from if_neg h18] at k
                  show Steps p.tables e below (T16.setTop (mkF m 94 #[.val (.int p1), .val (.int (f0_0 p1)), .val (.int (f0_1 p1)), .val (.int (f0_2 p1)), .val (.int (f0_3 p1)), .val (.ref r9)] [(.int (f0_2 p1)), (.long (f0_6 p1))])) _
                  refine XS.ifNo X16.here hx rfl (hb hby at_94) rfl ((if0 _ _).trans (feq h18).1) ?_
                  show Steps p.tables e below (T16.setTop (mkF m 97 #[.val (.int p1), .val (.int (f0_0 p1)), .val (.int (f0_1 p1)), .val (.int (f0_2 p1)), .val (.int (f0_3 p1)), .val (.ref r9)] [(.long (f0_6 p1))])) _
                  refine XS.iconst X16.here hx rfl (hb hby at_97) ?_
                  show Steps p.tables e below (T16.setTop (mkF m 98 #[.val (.int p1), .val (.int (f0_0 p1)), .val (.int (f0_1 p1)), .val (.int (f0_2 p1)), .val (.int (f0_3 p1)), .val (.ref r9)] [(.int (1 : Int32)), (.long (f0_6 p1))])) _
                  refine XS.goto X16.here hx rfl (pc0 := 98) (pc' := 102) rfl (hb hby at_98) (by decide) (by decide) ?_
                  exact k
              rw [show (if (f0_1 p1) = (0 : Int32) then (0 : Int32) else (f0_7 p1)) = (f0_7 p1) from if_neg h17] at k
              show Steps p.tables e below (T16.setTop (mkF m 90 #[.val (.int p1), .val (.int (f0_0 p1)), .val (.int (f0_1 p1)), .val (.int (f0_2 p1)), .val (.int (f0_3 p1)), .val (.ref r9)] [(.int (f0_1 p1)), (.long (f0_6 p1))])) _
              refine XS.ifNo X16.here hx rfl (hb hby at_90) rfl ((if0 _ _).trans (feq h17).1) ?_
              show Steps p.tables e below (T16.setTop (mkF m 93 #[.val (.int p1), .val (.int (f0_0 p1)), .val (.int (f0_1 p1)), .val (.int (f0_2 p1)), .val (.int (f0_3 p1)), .val (.ref r9)] [(.long (f0_6 p1))])) _
              refine XS.iloadN X16.here hx rfl (hb hby at_93) rfl ?_
              show Steps p.tables e below (T16.setTop (mkF m 94 #[.val (.int p1), .val (.int (f0_0 p1)), .val (.int (f0_1 p1)), .val (.int (f0_2 p1)), .val (.int (f0_3 p1)), .val (.ref r9)] [(.int (f0_2 p1)), (.long (f0_6 p1))])) _
              refine st19 _ ?_
              exact k
          obtain ⟨_, _, ⟨T21, L21, k21, n21⟩, -, X21, ⟨Lc21, hQ21, l21, y21, z21⟩, st21⟩ := Jvm.LawKit.callS X16 hx (y := (⟨"com/example/medspan/medspan/ProportionCountsCountPinLaw", "counts", "(JZ)Z"⟩ : MethodName)) hown (mvT hZ (hw _ (List.mem_of_getElem? (i := 33) rfl))) (mvT hZ (hw _ (List.mem_of_getElem? (i := 34) rfl))) (mvT hZ (hw _ (List.mem_of_getElem? (i := 35) rfl))) (mvT hZ (hw _ (List.mem_of_getElem? (i := 36) rfl))) (by decide) (backOf (W := 0) (rm7 l Z a0 hw [] (f0_6 p1) (if (f0_1 p1) = (0 : Int32) then (0 : Int32) else (f0_7 p1)) T9.heap n0 Z9) hZ (hw _ (List.mem_of_getElem? (i := 36) rfl)) (hw _ (List.mem_of_getElem? (i := 35) rfl)) (by decide) (by decide)) (g := (mkF m 102 #[.val (.int p1), .val (.int (f0_0 p1)), .val (.int (f0_1 p1)), .val (.int (f0_2 p1)), .val (.int (f0_3 p1)), .val (.ref r9)] [(.int (if (f0_1 p1) = (0 : Int32) then (0 : Int32) else (f0_7 p1))), (.long (f0_6 p1))])) rfl (by rw [hml]; rfl) (argsL := [(.long (f0_6 p1)), (.int (if (f0_1 p1) = (0 : Int32) then (0 : Int32) else (f0_7 p1)))]) (rest := []) (lenOf pd_5 rfl) rfl (by show 2 * 0 + _ ≤ _; exact Nat.le_of_eq rfl) (hb hby at_102) (fun _ _ => ⟨rfl, e16, (by decide : 1 + 0 ≤ _), (by decide : 4 + 0 ≤ _)⟩)
          dsimp only [Pt.U, Pt.locs, Pt.cells, Pt.slots] at X21 l21 y21 z21 st21 hQ21
          subst l21 y21 z21
          obtain ⟨rfl, N21q, e21⟩ := hQ21
          have N21 := Fr.app N16 N21q
          obtain ⟨T33, lo33, X33, e33, N33, st33⟩ : ∃ (T' : State) (lo : List Loc) (_ : Stand p l e room_1 s m #[(.int p1)] below meth c T' lo 1 4), T'.heap = T9.heap ∧ Fr n0 lo ∧ ∀ t, Steps p.tables e below (T'.setTop (mkF m 142 #[.val (.int p1), .val (.int (f0_0 p1)), .val (.int (f0_1 p1)), .val (.int (f0_2 p1)), .val (.int (f0_3 p1)), .val (.ref r9)] [(.int (f0_14 p1))])) t → Steps p.tables e below (T21.setTop (mkF m 105 #[.val (.int p1), .val (.int (f0_0 p1)), .val (.int (f0_1 p1)), .val (.int (f0_2 p1)), .val (.int (f0_3 p1)), .val (.ref r9)] [(.int (f0_8 p1))])) t := by
            by_cases h22 : (f0_8 p1) = (0 : Int32)
            · refine ⟨T21, _, X21, e21, N21, fun t k => ?_⟩
              rw [show (f0_14 p1) = (0 : Int32) from if_pos h22] at k
              show Steps p.tables e below (T21.setTop (mkF m 105 #[.val (.int p1), .val (.int (f0_0 p1)), .val (.int (f0_1 p1)), .val (.int (f0_2 p1)), .val (.int (f0_3 p1)), .val (.ref r9)] [(.int (f0_8 p1))])) _
              refine XS.ifYes X21.here hx rfl (pc0 := 105) (pc' := 141) rfl (hb hby at_105) rfl ((if0 _ _).trans (teq h22).1) (by decide) (by decide) ?_
              show Steps p.tables e below (T21.setTop (mkF m 141 #[.val (.int p1), .val (.int (f0_0 p1)), .val (.int (f0_1 p1)), .val (.int (f0_2 p1)), .val (.int (f0_3 p1)), .val (.ref r9)] [])) _
              refine XS.iconst X21.here hx rfl (hb hby at_141) ?_
              exact k
            · obtain ⟨cq23, kq23, q23a, q23b, q23c⟩ := isOf hZ e21 c9_0
              obtain ⟨_, _, ⟨T23, L23, k23, n23⟩, -, X23, ⟨Lc23, hQ23, l23, y23, z23⟩, st23⟩ := X21.virtualBack hx (y := (⟨"com/example/medspan/medspan/ProportionCounts", "numerator", "()J"⟩ : MethodName)) (z := (⟨"com/example/medspan/medspan/ProportionCounts", "numerator", "()J"⟩ : MethodName)) hown (mvT hZ (hw _ (List.mem_of_getElem? (i := 47) rfl))) (mvT hZ (hw _ (List.mem_of_getElem? (i := 48) rfl))) (notFace_of_selects (args := #[]) (mvT hZ (hw _ (List.mem_of_getElem? (i := 50) rfl)))) (mvT hZ (hw _ (List.mem_of_getElem? (i := 50) rfl))) (mvT hZ (hw _ (List.mem_of_getElem? (i := 49) rfl))) (by decide) (backOf (W := 0) (rm10 l Z a0 hw [] r9 (f2 (f0_0 p1)) (f2 (f0_1 p1)) (f2 (f1_0 (f0_0 p1) (f0_1 p1) (f0_2 p1) (f0_3 p1))) (f2 (f1_2 (f0_0 p1) (f0_1 p1) (f0_2 p1) (f0_3 p1))) T9.heap n0 Z9 c9_3 c9_1 c9_2 c9_4) hZ (hw _ (List.mem_of_getElem? (i := 51) rfl)) (hw _ (List.mem_of_getElem? (i := 2) rfl)) (by decide) (by decide)) q23a q23c (g := (mkF m 110 #[.val (.int p1), .val (.int (f0_0 p1)), .val (.int (f0_1 p1)), .val (.int (f0_2 p1)), .val (.int (f0_3 p1)), .val (.ref r9)] [(.ref r9)])) rfl (by rw [hml]; rfl) (Steps.refl _) (argsL := []) (rest := []) (lenOf pd_4 rfl) rfl (by show 2 * 0 + _ ≤ _; exact Nat.le_of_eq rfl) (hb hby at_110) (fun _ _ => ⟨rfl, e21, (by decide : 1 + 0 ≤ _), (by decide : 4 + 0 ≤ _)⟩)
              dsimp only [Pt.U, Pt.locs, Pt.cells, Pt.slots] at X23 l23 y23 z23 st23 hQ23
              subst l23 y23 z23
              obtain ⟨rfl, N23q, e23⟩ := hQ23
              have N23 := Fr.app N21 N23q
              have st29 : ∀ t, Steps p.tables e below (T23.setTop (mkF m 131 #[.val (.int p1), .val (.int (f0_0 p1)), .val (.int (f0_1 p1)), .val (.int (f0_2 p1)), .val (.int (f0_3 p1)), .val (.ref r9)] [(.int (f0_12 p1)), (.long (f0_9 p1))])) t → Steps p.tables e below (T23.setTop (mkF m 114 #[.val (.int p1), .val (.int (f0_0 p1)), .val (.int (f0_1 p1)), .val (.int (f0_2 p1)), .val (.int (f0_3 p1)), .val (.ref r9)] [(.int (f0_1 p1)), (.long (f0_9 p1))])) t := by
                intro t k
                by_cases h24 : (f0_1 p1) = (0 : Int32)
                · rw [show (f0_12 p1) = (0 : Int32) from if_pos h24] at k
                  show Steps p.tables e below (T23.setTop (mkF m 114 #[.val (.int p1), .val (.int (f0_0 p1)), .val (.int (f0_1 p1)), .val (.int (f0_2 p1)), .val (.int (f0_3 p1)), .val (.ref r9)] [(.int (f0_1 p1)), (.long (f0_9 p1))])) _
                  refine XS.ifYes X23.here hx rfl (pc0 := 114) (pc' := 130) rfl (hb hby at_114) rfl ((if0 _ _).trans (teq h24).1) (by decide) (by decide) ?_
                  show Steps p.tables e below (T23.setTop (mkF m 130 #[.val (.int p1), .val (.int (f0_0 p1)), .val (.int (f0_1 p1)), .val (.int (f0_2 p1)), .val (.int (f0_3 p1)), .val (.ref r9)] [(.long (f0_9 p1))])) _
                  refine XS.iconst X23.here hx rfl (hb hby at_130) ?_
                  exact k
                · have st28 : ∀ t, Steps p.tables e below (T23.setTop (mkF m 131 #[.val (.int p1), .val (.int (f0_0 p1)), .val (.int (f0_1 p1)), .val (.int (f0_2 p1)), .val (.int (f0_3 p1)), .val (.ref r9)] [(.int (f0_11 p1)), (.long (f0_9 p1))])) t → Steps p.tables e below (T23.setTop (mkF m 118 #[.val (.int p1), .val (.int (f0_0 p1)), .val (.int (f0_1 p1)), .val (.int (f0_2 p1)), .val (.int (f0_3 p1)), .val (.ref r9)] [(.int (f0_2 p1)), (.long (f0_9 p1))])) t := by
                    intro t k
                    by_cases h25 : (f0_2 p1) = (0 : Int32)
                    · have st27 : ∀ t, Steps p.tables e below (T23.setTop (mkF m 131 #[.val (.int p1), .val (.int (f0_0 p1)), .val (.int (f0_1 p1)), .val (.int (f0_2 p1)), .val (.int (f0_3 p1)), .val (.ref r9)] [(.int (f0_10 p1)), (.long (f0_9 p1))])) t → Steps p.tables e below (T23.setTop (mkF m 123 #[.val (.int p1), .val (.int (f0_0 p1)), .val (.int (f0_1 p1)), .val (.int (f0_2 p1)), .val (.int (f0_3 p1)), .val (.ref r9)] [(.int (f0_3 p1)), (.long (f0_9 p1))])) t := by
                        intro t k
                        by_cases h26 : (f0_3 p1) = (0 : Int32)
                        · rw [show (f0_10 p1) = (0 : Int32) from if_pos h26] at k
                          show Steps p.tables e below (T23.setTop (mkF m 123 #[.val (.int p1), .val (.int (f0_0 p1)), .val (.int (f0_1 p1)), .val (.int (f0_2 p1)), .val (.int (f0_3 p1)), .val (.ref r9)] [(.int (f0_3 p1)), (.long (f0_9 p1))])) _
                          refine XS.ifYes X23.here hx rfl (pc0 := 123) (pc' := 130) rfl (hb hby at_123) rfl ((if0 _ _).trans (teq h26).1) (by decide) (by decide) ?_
                          show Steps p.tables e below (T23.setTop (mkF m 130 #[.val (.int p1), .val (.int (f0_0 p1)), .val (.int (f0_1 p1)), .val (.int (f0_2 p1)), .val (.int (f0_3 p1)), .val (.ref r9)] [(.long (f0_9 p1))])) _
                          refine XS.iconst X23.here hx rfl (hb hby at_130) ?_
                          exact k
                        · rw [show (f0_10 p1) = (1 : Int32) from if_neg h26] at k
                          show Steps p.tables e below (T23.setTop (mkF m 123 #[.val (.int p1), .val (.int (f0_0 p1)), .val (.int (f0_1 p1)), .val (.int (f0_2 p1)), .val (.int (f0_3 p1)), .val (.ref r9)] [(.int (f0_3 p1)), (.long (f0_9 p1))])) _
                          refine XS.ifNo X23.here hx rfl (hb hby at_123) rfl ((if0 _ _).trans (feq h26).1) ?_
                          show Steps p.tables e below (T23.setTop (mkF m 126 #[.val (.int p1), .val (.int (f0_0 p1)), .val (.int (f0_1 p1)), .val (.int (f0_2 p1)), .val (.int (f0_3 p1)), .val (.ref r9)] [(.long (f0_9 p1))])) _
                          refine XS.iconst X23.here hx rfl (hb hby at_126) ?_
                          show Steps p.tables e below (T23.setTop (mkF m 127 #[.val (.int p1), .val (.int (f0_0 p1)), .val (.int (f0_1 p1)), .val (.int (f0_2 p1)), .val (.int (f0_3 p1)), .val (.ref r9)] [(.int (1 : Int32)), (.long (f0_9 p1))])) _
                          refine XS.goto X23.here hx rfl (pc0 := 127) (pc' := 131) rfl (hb hby at_127) (by decide) (by decide) ?_
                          exact k
                      rw [show (f0_11 p1) = (f0_10 p1) from if_pos h25] at k
                      show Steps p.tables e below (T23.setTop (mkF m 118 #[.val (.int p1), .val (.int (f0_0 p1)), .val (.int (f0_1 p1)), .val (.int (f0_2 p1)), .val (.int (f0_3 p1)), .val (.ref r9)] [(.int (f0_2 p1)), (.long (f0_9 p1))])) _
                      refine XS.ifNo X23.here hx rfl (hb hby at_118) rfl ((if0 _ _).trans (teq h25).2) ?_
                      show Steps p.tables e below (T23.setTop (mkF m 121 #[.val (.int p1), .val (.int (f0_0 p1)), .val (.int (f0_1 p1)), .val (.int (f0_2 p1)), .val (.int (f0_3 p1)), .val (.ref r9)] [(.long (f0_9 p1))])) _
                      refine XS.iload X23.here hx rfl (hb hby at_121) rfl ?_
                      show Steps p.tables e below (T23.setTop (mkF m 123 #[.val (.int p1), .val (.int (f0_0 p1)), .val (.int (f0_1 p1)), .val (.int (f0_2 p1)), .val (.int (f0_3 p1)), .val (.ref r9)] [(.int (f0_3 p1)), (.long (f0_9 p1))])) _
                      refine st27 _ ?_
                      exact k
                    · rw [show (f0_11 p1) = (0 : Int32) from if_neg h25] at k
                      show Steps p.tables e below (T23.setTop (mkF m 118 #[.val (.int p1), .val (.int (f0_0 p1)), .val (.int (f0_1 p1)), .val (.int (f0_2 p1)), .val (.int (f0_3 p1)), .val (.ref r9)] [(.int (f0_2 p1)), (.long (f0_9 p1))])) _
                      refine XS.ifYes X23.here hx rfl (pc0 := 118) (pc' := 130) rfl (hb hby at_118) rfl ((if0 _ _).trans (feq h25).2) (by decide) (by decide) ?_
                      show Steps p.tables e below (T23.setTop (mkF m 130 #[.val (.int p1), .val (.int (f0_0 p1)), .val (.int (f0_1 p1)), .val (.int (f0_2 p1)), .val (.int (f0_3 p1)), .val (.ref r9)] [(.long (f0_9 p1))])) _
                      refine XS.iconst X23.here hx rfl (hb hby at_130) ?_
                      exact k
                  rw [show (f0_12 p1) = (f0_11 p1) from if_neg h24] at k
                  show Steps p.tables e below (T23.setTop (mkF m 114 #[.val (.int p1), .val (.int (f0_0 p1)), .val (.int (f0_1 p1)), .val (.int (f0_2 p1)), .val (.int (f0_3 p1)), .val (.ref r9)] [(.int (f0_1 p1)), (.long (f0_9 p1))])) _
                  refine XS.ifNo X23.here hx rfl (hb hby at_114) rfl ((if0 _ _).trans (feq h24).1) ?_
                  show Steps p.tables e below (T23.setTop (mkF m 117 #[.val (.int p1), .val (.int (f0_0 p1)), .val (.int (f0_1 p1)), .val (.int (f0_2 p1)), .val (.int (f0_3 p1)), .val (.ref r9)] [(.long (f0_9 p1))])) _
                  refine XS.iloadN X23.here hx rfl (hb hby at_117) rfl ?_
                  show Steps p.tables e below (T23.setTop (mkF m 118 #[.val (.int p1), .val (.int (f0_0 p1)), .val (.int (f0_1 p1)), .val (.int (f0_2 p1)), .val (.int (f0_3 p1)), .val (.ref r9)] [(.int (f0_2 p1)), (.long (f0_9 p1))])) _
                  refine st28 _ ?_
                  exact k
              obtain ⟨_, _, ⟨T30, L30, k30, n30⟩, -, X30, ⟨Lc30, hQ30, l30, y30, z30⟩, st30⟩ := Jvm.LawKit.callS X23 hx (y := (⟨"com/example/medspan/medspan/ProportionCountsCountPinLaw", "counts", "(JZ)Z"⟩ : MethodName)) hown (mvT hZ (hw _ (List.mem_of_getElem? (i := 33) rfl))) (mvT hZ (hw _ (List.mem_of_getElem? (i := 34) rfl))) (mvT hZ (hw _ (List.mem_of_getElem? (i := 35) rfl))) (mvT hZ (hw _ (List.mem_of_getElem? (i := 36) rfl))) (by decide) (backOf (W := 0) (rm7 l Z a0 hw [] (f0_9 p1) (f0_12 p1) T9.heap n0 Z9) hZ (hw _ (List.mem_of_getElem? (i := 36) rfl)) (hw _ (List.mem_of_getElem? (i := 35) rfl)) (by decide) (by decide)) (g := (mkF m 131 #[.val (.int p1), .val (.int (f0_0 p1)), .val (.int (f0_1 p1)), .val (.int (f0_2 p1)), .val (.int (f0_3 p1)), .val (.ref r9)] [(.int (f0_12 p1)), (.long (f0_9 p1))])) rfl (by rw [hml]; rfl) (argsL := [(.long (f0_9 p1)), (.int (f0_12 p1))]) (rest := []) (lenOf pd_5 rfl) rfl (by show 2 * 0 + _ ≤ _; exact Nat.le_of_eq rfl) (hb hby at_131) (fun _ _ => ⟨rfl, e23, (by decide : 1 + 0 ≤ _), (by decide : 4 + 0 ≤ _)⟩)
              dsimp only [Pt.U, Pt.locs, Pt.cells, Pt.slots] at X30 l30 y30 z30 st30 hQ30
              subst l30 y30 z30
              obtain ⟨rfl, N30q, e30⟩ := hQ30
              have N30 := Fr.app N23 N30q
              have st32 : ∀ t, Steps p.tables e below (T30.setTop (mkF m 142 #[.val (.int p1), .val (.int (f0_0 p1)), .val (.int (f0_1 p1)), .val (.int (f0_2 p1)), .val (.int (f0_3 p1)), .val (.ref r9)] [(.int (f0_13 p1))])) t → Steps p.tables e below (T30.setTop (mkF m 134 #[.val (.int p1), .val (.int (f0_0 p1)), .val (.int (f0_1 p1)), .val (.int (f0_2 p1)), .val (.int (f0_3 p1)), .val (.ref r9)] [(.int (f7 (f0_9 p1) (f0_12 p1)))])) t := by
                intro t k
                by_cases h31 : (f7 (f0_9 p1) (f0_12 p1)) = (0 : Int32)
                · rw [show (f0_13 p1) = (0 : Int32) from if_pos h31] at k
                  show Steps p.tables e below (T30.setTop (mkF m 134 #[.val (.int p1), .val (.int (f0_0 p1)), .val (.int (f0_1 p1)), .val (.int (f0_2 p1)), .val (.int (f0_3 p1)), .val (.ref r9)] [(.int (f7 (f0_9 p1) (f0_12 p1)))])) _
                  refine XS.ifYes X30.here hx rfl (pc0 := 134) (pc' := 141) rfl (hb hby at_134) rfl ((if0 _ _).trans (teq h31).1) (by decide) (by decide) ?_
                  show Steps p.tables e below (T30.setTop (mkF m 141 #[.val (.int p1), .val (.int (f0_0 p1)), .val (.int (f0_1 p1)), .val (.int (f0_2 p1)), .val (.int (f0_3 p1)), .val (.ref r9)] [])) _
                  refine XS.iconst X30.here hx rfl (hb hby at_141) ?_
                  exact k
                · rw [show (f0_13 p1) = (1 : Int32) from if_neg h31] at k
                  show Steps p.tables e below (T30.setTop (mkF m 134 #[.val (.int p1), .val (.int (f0_0 p1)), .val (.int (f0_1 p1)), .val (.int (f0_2 p1)), .val (.int (f0_3 p1)), .val (.ref r9)] [(.int (f7 (f0_9 p1) (f0_12 p1)))])) _
                  refine XS.ifNo X30.here hx rfl (hb hby at_134) rfl ((if0 _ _).trans (feq h31).1) ?_
                  show Steps p.tables e below (T30.setTop (mkF m 137 #[.val (.int p1), .val (.int (f0_0 p1)), .val (.int (f0_1 p1)), .val (.int (f0_2 p1)), .val (.int (f0_3 p1)), .val (.ref r9)] [])) _
                  refine XS.iconst X30.here hx rfl (hb hby at_137) ?_
                  show Steps p.tables e below (T30.setTop (mkF m 138 #[.val (.int p1), .val (.int (f0_0 p1)), .val (.int (f0_1 p1)), .val (.int (f0_2 p1)), .val (.int (f0_3 p1)), .val (.ref r9)] [(.int (1 : Int32))])) _
                  refine XS.goto X30.here hx rfl (pc0 := 138) (pc' := 142) rfl (hb hby at_138) (by decide) (by decide) ?_
                  exact k
              refine ⟨T30, _, X30, e30, N30, fun t k => ?_⟩
              rw [show (f0_14 p1) = (f0_13 p1) from if_neg h22] at k
              show Steps p.tables e below (T21.setTop (mkF m 105 #[.val (.int p1), .val (.int (f0_0 p1)), .val (.int (f0_1 p1)), .val (.int (f0_2 p1)), .val (.int (f0_3 p1)), .val (.ref r9)] [(.int (f0_8 p1))])) _
              refine XS.ifNo X21.here hx rfl (hb hby at_105) rfl ((if0 _ _).trans (feq h22).1) ?_
              show Steps p.tables e below (T21.setTop (mkF m 108 #[.val (.int p1), .val (.int (f0_0 p1)), .val (.int (f0_1 p1)), .val (.int (f0_2 p1)), .val (.int (f0_3 p1)), .val (.ref r9)] [])) _
              refine XS.aload X21.here hx rfl (hb hby at_108) rfl rfl ?_
              show Steps p.tables e below (T21.setTop (mkF m 110 #[.val (.int p1), .val (.int (f0_0 p1)), .val (.int (f0_1 p1)), .val (.int (f0_2 p1)), .val (.int (f0_3 p1)), .val (.ref r9)] [(.ref r9)])) _
              refine st23.trans ?_
              show Steps p.tables e below (T23.setTop (mkF m 113 #[.val (.int p1), .val (.int (f0_0 p1)), .val (.int (f0_1 p1)), .val (.int (f0_2 p1)), .val (.int (f0_3 p1)), .val (.ref r9)] [(.long (f0_9 p1))])) _
              refine XS.iloadN X23.here hx rfl (hb hby at_113) rfl ?_
              show Steps p.tables e below (T23.setTop (mkF m 114 #[.val (.int p1), .val (.int (f0_0 p1)), .val (.int (f0_1 p1)), .val (.int (f0_2 p1)), .val (.int (f0_3 p1)), .val (.ref r9)] [(.int (f0_1 p1)), (.long (f0_9 p1))])) _
              refine st29 _ ?_
              show Steps p.tables e below (T23.setTop (mkF m 131 #[.val (.int p1), .val (.int (f0_0 p1)), .val (.int (f0_1 p1)), .val (.int (f0_2 p1)), .val (.int (f0_3 p1)), .val (.ref r9)] [(.int (f0_12 p1)), (.long (f0_9 p1))])) _
              refine st30 _ ?_
              show Steps p.tables e below (T30.setTop (mkF m 134 #[.val (.int p1), .val (.int (f0_0 p1)), .val (.int (f0_1 p1)), .val (.int (f0_2 p1)), .val (.int (f0_3 p1)), .val (.ref r9)] [(.int (f7 (f0_9 p1) (f0_12 p1)))])) _
              refine st32 _ ?_
              exact k
          refine ⟨T33, _, X33, e33, N33, fun t k => ?_⟩
          rw [show (f0_15 p1) = (f0_14 p1) from if_neg h15] at k
          show Steps p.tables e below (T14.setTop (mkF m 81 #[.val (.int p1), .val (.int (f0_0 p1)), .val (.int (f0_1 p1)), .val (.int (f0_2 p1)), .val (.int (f0_3 p1)), .val (.ref r9)] [(.int (f7 (f0_5 p1) (f0_1 p1)))])) _
          refine XS.ifNo X14.here hx rfl (hb hby at_81) rfl ((if0 _ _).trans (feq h15).1) ?_
          show Steps p.tables e below (T14.setTop (mkF m 84 #[.val (.int p1), .val (.int (f0_0 p1)), .val (.int (f0_1 p1)), .val (.int (f0_2 p1)), .val (.int (f0_3 p1)), .val (.ref r9)] [])) _
          refine XS.aload X14.here hx rfl (hb hby at_84) rfl rfl ?_
          show Steps p.tables e below (T14.setTop (mkF m 86 #[.val (.int p1), .val (.int (f0_0 p1)), .val (.int (f0_1 p1)), .val (.int (f0_2 p1)), .val (.int (f0_3 p1)), .val (.ref r9)] [(.ref r9)])) _
          refine st16.trans ?_
          show Steps p.tables e below (T16.setTop (mkF m 89 #[.val (.int p1), .val (.int (f0_0 p1)), .val (.int (f0_1 p1)), .val (.int (f0_2 p1)), .val (.int (f0_3 p1)), .val (.ref r9)] [(.long (f0_6 p1))])) _
          refine XS.iloadN X16.here hx rfl (hb hby at_89) rfl ?_
          show Steps p.tables e below (T16.setTop (mkF m 90 #[.val (.int p1), .val (.int (f0_0 p1)), .val (.int (f0_1 p1)), .val (.int (f0_2 p1)), .val (.int (f0_3 p1)), .val (.ref r9)] [(.int (f0_1 p1)), (.long (f0_6 p1))])) _
          refine st20 _ ?_
          show Steps p.tables e below (T16.setTop (mkF m 102 #[.val (.int p1), .val (.int (f0_0 p1)), .val (.int (f0_1 p1)), .val (.int (f0_2 p1)), .val (.int (f0_3 p1)), .val (.ref r9)] [(.int (if (f0_1 p1) = (0 : Int32) then (0 : Int32) else (f0_7 p1))), (.long (f0_6 p1))])) _
          refine st21 _ ?_
          show Steps p.tables e below (T21.setTop (mkF m 105 #[.val (.int p1), .val (.int (f0_0 p1)), .val (.int (f0_1 p1)), .val (.int (f0_2 p1)), .val (.int (f0_3 p1)), .val (.ref r9)] [(.int (f0_8 p1))])) _
          refine st33 _ ?_
          exact k
      refine ⟨T34, _, X34, e34, N34, fun t k => ?_⟩
      rw [show (f0_16 p1) = (f0_15 p1) from if_neg h12] at k
      show Steps p.tables e below (T11.setTop (mkF m 69 #[.val (.int p1), .val (.int (f0_0 p1)), .val (.int (f0_1 p1)), .val (.int (f0_2 p1)), .val (.int (f0_3 p1)), .val (.ref r9)] [(.int (f7 (f0_4 p1) (f0_0 p1)))])) _
      refine XS.ifNo X11.here hx rfl (hb hby at_69) rfl ((if0 _ _).trans (feq h12).1) ?_
      show Steps p.tables e below (T11.setTop (mkF m 72 #[.val (.int p1), .val (.int (f0_0 p1)), .val (.int (f0_1 p1)), .val (.int (f0_2 p1)), .val (.int (f0_3 p1)), .val (.ref r9)] [])) _
      refine XS.aload X11.here hx rfl (hb hby at_72) rfl rfl ?_
      show Steps p.tables e below (T11.setTop (mkF m 74 #[.val (.int p1), .val (.int (f0_0 p1)), .val (.int (f0_1 p1)), .val (.int (f0_2 p1)), .val (.int (f0_3 p1)), .val (.ref r9)] [(.ref r9)])) _
      refine st13.trans ?_
      show Steps p.tables e below (T13.setTop (mkF m 77 #[.val (.int p1), .val (.int (f0_0 p1)), .val (.int (f0_1 p1)), .val (.int (f0_2 p1)), .val (.int (f0_3 p1)), .val (.ref r9)] [(.long (f0_5 p1))])) _
      refine XS.iloadN X13.here hx rfl (hb hby at_77) rfl ?_
      show Steps p.tables e below (T13.setTop (mkF m 78 #[.val (.int p1), .val (.int (f0_0 p1)), .val (.int (f0_1 p1)), .val (.int (f0_2 p1)), .val (.int (f0_3 p1)), .val (.ref r9)] [(.int (f0_1 p1)), (.long (f0_5 p1))])) _
      refine st14 _ ?_
      show Steps p.tables e below (T14.setTop (mkF m 81 #[.val (.int p1), .val (.int (f0_0 p1)), .val (.int (f0_1 p1)), .val (.int (f0_2 p1)), .val (.int (f0_3 p1)), .val (.ref r9)] [(.int (f7 (f0_5 p1) (f0_1 p1)))])) _
      refine st34 _ ?_
      exact k
  obtain ⟨fs, hr, hrun, hended, hW, hsame⟩ := X35.leave (v := some (.int ((f0_16 p1) &&& 1))) (fun h => by rw [Bd.returns] at h; cases h)
  refine ⟨_, _, ?_, hrun, hended, _, _, rfl, ?_, ⟨_, rfl⟩, hW, hsame.mono (by decide) (by decide)⟩
  · show Steps p.tables e below (s₁.setTop (mkF m 0 #[.val (.int p1), .unset, .unset, .unset, .unset, .unset] [])) _
    refine XS.iloadN X0.here hx rfl (hb hby at_0) rfl ?_
    show Steps p.tables e below (s₁.setTop (mkF m 1 #[.val (.int p1), .unset, .unset, .unset, .unset, .unset] [(.int p1)])) _
    refine XS.iconst X0.here hx rfl (hb hby at_1) ?_
    show Steps p.tables e below (s₁.setTop (mkF m 2 #[.val (.int p1), .unset, .unset, .unset, .unset, .unset] [(.int (1 : Int32)), (.int p1)])) _
    refine XS.iand X0.here hx rfl (hb hby at_2) rfl ?_
    show Steps p.tables e below (s₁.setTop (mkF m 3 #[.val (.int p1), .unset, .unset, .unset, .unset, .unset] [(.int (p1 &&& (1 : Int32)))])) _
    refine st2 _ ?_
    show Steps p.tables e below (s₁.setTop (mkF m 11 #[.val (.int p1), .unset, .unset, .unset, .unset, .unset] [(.int (f0_0 p1))])) _
    refine XS.istoreN X0.here hx rfl (hb hby at_11) rfl (l' := #[.val (.int p1), .val (.int (f0_0 p1)), .unset, .unset, .unset, .unset]) rfl ?_
    show Steps p.tables e below (s₁.setTop (mkF m 12 #[.val (.int p1), .val (.int (f0_0 p1)), .unset, .unset, .unset, .unset] [])) _
    refine XS.iloadN X0.here hx rfl (hb hby at_12) rfl ?_
    show Steps p.tables e below (s₁.setTop (mkF m 13 #[.val (.int p1), .val (.int (f0_0 p1)), .unset, .unset, .unset, .unset] [(.int p1)])) _
    refine XS.iconst X0.here hx rfl (hb hby at_13) ?_
    show Steps p.tables e below (s₁.setTop (mkF m 14 #[.val (.int p1), .val (.int (f0_0 p1)), .unset, .unset, .unset, .unset] [(.int (2 : Int32)), (.int p1)])) _
    refine XS.iand X0.here hx rfl (hb hby at_14) rfl ?_
    show Steps p.tables e below (s₁.setTop (mkF m 15 #[.val (.int p1), .val (.int (f0_0 p1)), .unset, .unset, .unset, .unset] [(.int (p1 &&& (2 : Int32)))])) _
    refine st4 _ ?_
    show Steps p.tables e below (s₁.setTop (mkF m 23 #[.val (.int p1), .val (.int (f0_0 p1)), .unset, .unset, .unset, .unset] [(.int (f0_1 p1))])) _
    refine XS.istoreN X0.here hx rfl (hb hby at_23) rfl (l' := #[.val (.int p1), .val (.int (f0_0 p1)), .val (.int (f0_1 p1)), .unset, .unset, .unset]) rfl ?_
    show Steps p.tables e below (s₁.setTop (mkF m 24 #[.val (.int p1), .val (.int (f0_0 p1)), .val (.int (f0_1 p1)), .unset, .unset, .unset] [])) _
    refine XS.iloadN X0.here hx rfl (hb hby at_24) rfl ?_
    show Steps p.tables e below (s₁.setTop (mkF m 25 #[.val (.int p1), .val (.int (f0_0 p1)), .val (.int (f0_1 p1)), .unset, .unset, .unset] [(.int p1)])) _
    refine XS.iconst X0.here hx rfl (hb hby at_25) ?_
    show Steps p.tables e below (s₁.setTop (mkF m 26 #[.val (.int p1), .val (.int (f0_0 p1)), .val (.int (f0_1 p1)), .unset, .unset, .unset] [(.int (4 : Int32)), (.int p1)])) _
    refine XS.iand X0.here hx rfl (hb hby at_26) rfl ?_
    show Steps p.tables e below (s₁.setTop (mkF m 27 #[.val (.int p1), .val (.int (f0_0 p1)), .val (.int (f0_1 p1)), .unset, .unset, .unset] [(.int (p1 &&& (4 : Int32)))])) _
    refine st6 _ ?_
    show Steps p.tables e below (s₁.setTop (mkF m 35 #[.val (.int p1), .val (.int (f0_0 p1)), .val (.int (f0_1 p1)), .unset, .unset, .unset] [(.int (f0_2 p1))])) _
    refine XS.istoreN X0.here hx rfl (hb hby at_35) rfl (l' := #[.val (.int p1), .val (.int (f0_0 p1)), .val (.int (f0_1 p1)), .val (.int (f0_2 p1)), .unset, .unset]) rfl ?_
    show Steps p.tables e below (s₁.setTop (mkF m 36 #[.val (.int p1), .val (.int (f0_0 p1)), .val (.int (f0_1 p1)), .val (.int (f0_2 p1)), .unset, .unset] [])) _
    refine XS.iloadN X0.here hx rfl (hb hby at_36) rfl ?_
    show Steps p.tables e below (s₁.setTop (mkF m 37 #[.val (.int p1), .val (.int (f0_0 p1)), .val (.int (f0_1 p1)), .val (.int (f0_2 p1)), .unset, .unset] [(.int p1)])) _
    refine XS.bipush X0.here hx rfl (hb hby at_37) ?_
    show Steps p.tables e below (s₁.setTop (mkF m 39 #[.val (.int p1), .val (.int (f0_0 p1)), .val (.int (f0_1 p1)), .val (.int (f0_2 p1)), .unset, .unset] [(.int (8 : Int32)), (.int p1)])) _
    refine XS.iand X0.here hx rfl (hb hby at_39) rfl ?_
    show Steps p.tables e below (s₁.setTop (mkF m 40 #[.val (.int p1), .val (.int (f0_0 p1)), .val (.int (f0_1 p1)), .val (.int (f0_2 p1)), .unset, .unset] [(.int (p1 &&& (8 : Int32)))])) _
    refine st8 _ ?_
    show Steps p.tables e below (s₁.setTop (mkF m 48 #[.val (.int p1), .val (.int (f0_0 p1)), .val (.int (f0_1 p1)), .val (.int (f0_2 p1)), .unset, .unset] [(.int (f0_3 p1))])) _
    refine XS.istore X0.here hx rfl (hb hby at_48) rfl (l' := #[.val (.int p1), .val (.int (f0_0 p1)), .val (.int (f0_1 p1)), .val (.int (f0_2 p1)), .val (.int (f0_3 p1)), .unset]) rfl ?_
    show Steps p.tables e below (s₁.setTop (mkF m 50 #[.val (.int p1), .val (.int (f0_0 p1)), .val (.int (f0_1 p1)), .val (.int (f0_2 p1)), .val (.int (f0_3 p1)), .unset] [])) _
    refine XS.iloadN X0.here hx rfl (hb hby at_50) rfl ?_
    show Steps p.tables e below (s₁.setTop (mkF m 51 #[.val (.int p1), .val (.int (f0_0 p1)), .val (.int (f0_1 p1)), .val (.int (f0_2 p1)), .val (.int (f0_3 p1)), .unset] [(.int (f0_0 p1))])) _
    refine XS.iloadN X0.here hx rfl (hb hby at_51) rfl ?_
    show Steps p.tables e below (s₁.setTop (mkF m 52 #[.val (.int p1), .val (.int (f0_0 p1)), .val (.int (f0_1 p1)), .val (.int (f0_2 p1)), .val (.int (f0_3 p1)), .unset] [(.int (f0_1 p1)), (.int (f0_0 p1))])) _
    refine XS.iloadN X0.here hx rfl (hb hby at_52) rfl ?_
    show Steps p.tables e below (s₁.setTop (mkF m 53 #[.val (.int p1), .val (.int (f0_0 p1)), .val (.int (f0_1 p1)), .val (.int (f0_2 p1)), .val (.int (f0_3 p1)), .unset] [(.int (f0_2 p1)), (.int (f0_1 p1)), (.int (f0_0 p1))])) _
    refine XS.iload X0.here hx rfl (hb hby at_53) rfl ?_
    show Steps p.tables e below (s₁.setTop (mkF m 55 #[.val (.int p1), .val (.int (f0_0 p1)), .val (.int (f0_1 p1)), .val (.int (f0_2 p1)), .val (.int (f0_3 p1)), .unset] [(.int (f0_3 p1)), (.int (f0_2 p1)), (.int (f0_1 p1)), (.int (f0_0 p1))])) _
    refine st9 _ ?_
    show Steps p.tables e below (T9.setTop (mkF m 58 #[.val (.int p1), .val (.int (f0_0 p1)), .val (.int (f0_1 p1)), .val (.int (f0_2 p1)), .val (.int (f0_3 p1)), .unset] [(.ref r9)])) _
    refine XS.astore X9.here hx rfl (hb hby at_58) rfl rfl (l' := #[.val (.int p1), .val (.int (f0_0 p1)), .val (.int (f0_1 p1)), .val (.int (f0_2 p1)), .val (.int (f0_3 p1)), .val (.ref r9)]) rfl ?_
    show Steps p.tables e below (T9.setTop (mkF m 60 #[.val (.int p1), .val (.int (f0_0 p1)), .val (.int (f0_1 p1)), .val (.int (f0_2 p1)), .val (.int (f0_3 p1)), .val (.ref r9)] [])) _
    refine XS.aload X9.here hx rfl (hb hby at_60) rfl rfl ?_
    show Steps p.tables e below (T9.setTop (mkF m 62 #[.val (.int p1), .val (.int (f0_0 p1)), .val (.int (f0_1 p1)), .val (.int (f0_2 p1)), .val (.int (f0_3 p1)), .val (.ref r9)] [(.ref r9)])) _
    refine st10.trans ?_
    show Steps p.tables e below (T10.setTop (mkF m 65 #[.val (.int p1), .val (.int (f0_0 p1)), .val (.int (f0_1 p1)), .val (.int (f0_2 p1)), .val (.int (f0_3 p1)), .val (.ref r9)] [(.long (f0_4 p1))])) _
    refine XS.iloadN X10.here hx rfl (hb hby at_65) rfl ?_
    show Steps p.tables e below (T10.setTop (mkF m 66 #[.val (.int p1), .val (.int (f0_0 p1)), .val (.int (f0_1 p1)), .val (.int (f0_2 p1)), .val (.int (f0_3 p1)), .val (.ref r9)] [(.int (f0_0 p1)), (.long (f0_4 p1))])) _
    refine st11 _ ?_
    show Steps p.tables e below (T11.setTop (mkF m 69 #[.val (.int p1), .val (.int (f0_0 p1)), .val (.int (f0_1 p1)), .val (.int (f0_2 p1)), .val (.int (f0_3 p1)), .val (.ref r9)] [(.int (f7 (f0_4 p1) (f0_0 p1)))])) _
    refine st35 _ ?_
    show Steps p.tables e below (T35.setTop (mkF m 142 #[.val (.int p1), .val (.int (f0_0 p1)), .val (.int (f0_1 p1)), .val (.int (f0_2 p1)), .val (.int (f0_3 p1)), .val (.ref r9)] [(.int (f0_16 p1))])) _
    exact retN X35 hx (t := .boolean) Bd.returns (by simp) (hb hby at_142) hr
  · show Q0 Z p1 h0 n0 _ T35.heap _
    rw [e35]
    exact ⟨congrArg (fun z => some (Value.int z)) ((show f0 p1 = ((f0_16 p1) &&& 1) from by rfl).symm.trans (own_law p1)), N35⟩
set_option maxRecDepth 65536 in
set_option maxHeartbeats 40000000 in
theorem comes_1 {Post : Tables → Env → Array Value → State → Outcome → State → Prop} (hpost : ∀ tb e args s v u, (limb_1_1.after args s (.returned v) u = true ∧ limb_1_2.after args s (.returned v) u = true ∧ True) → FrameEnd s (.returned v) u (Jvm.fieldLocs frame_1_writes args s ++ Jvm.arrayLocs frame_1_arrays args s ++ Jvm.staticLocs frame_1_statics s) 16 128 → Post tb e args s (.returned v) u) :
    ArmFor flags0 classFile x code maxLocals ret World_1 tables_1 room_1 Calls_1 rest_1 Pre_1 Post := by
  intro l hfl _ _ p e ha hc hk s m args below hf hA hF happ hP
  obtain ⟨hcalls, hrest, hpre⟩ := hP
  obtain ⟨-, -, -, hnamed, -, -, -, hat⟩ := (Spec.applies_iff hf).mp happ
  obtain ⟨hg, hn⟩ := and_e (Cond.before_iff.mp (show (Jvm.Cond.and given_1 narrow_1).before args s = true from hpre))
  obtain ⟨hcnt, hg0⟩ := and_e hg
  obtain ⟨w0, rfl⟩ : ∃ w0 : Value, args = #[w0] := by
    have hs : args.size = 1 := by simpa [Cond.value, given_1] using hcnt
    obtain ⟨L⟩ := args
    match L, hs with
    | [w0], _ => exact ⟨w0, rfl⟩
  have hw := fun d (hd : d ∈ tables_1) => atoms_spec (ws := Jvm.Cond.code x code maxLocals ret :: tables_1) hat d (List.mem_cons_of_mem _ hd)
  have hfit : Fit s := fun {y c} hc i hi => by
    obtain ⟨ha, rfl⟩ := Array.getElem?_eq_some_iff.mp hc
    have q := List.all_eq_true.mp ((Array.all_eq_true_iff_forall_mem.mp hF) _ (Array.getElem_mem ha)) i (List.mem_range.mpr hi)
    simpa [Array.getElem?_eq_getElem hi] using q
  obtain ⟨i0, ei0⟩ := is_v hg0
  obtain rfl : w0 = (.int i0) := Option.some.inj ei0
  obtain ⟨n, o, h1, h2, h3, _, L, rfl, ⟨rfl, N⟩, hq⟩ := rm0 l s _ hw tables_1 i0 s.heap s.heap.size (Nat.le_refl _) p e ha hc hk s m _ below hf ((Spec.applies_iff_loose hf).mp happ).1 ⟨rfl, State.Warmed39.refl s, rfl⟩ trivial
  refine ⟨n, _, h1, h2, h3, hpost _ _ _ _ _ _ ⟨Cond.after_iff.mpr rfl, Cond.after_iff.mpr (eq_i res_at (Term.int_eval (1)) rfl), trivial⟩ ⟨hq.1, hq.2.1, (hq.2.2.sift fun y hy => Or.inr (N y hy)).mono (by decide) (by decide)⟩⟩
theorem main_1_1 : Claimed_1_1 := comes_1 fun _ _ _ _ _ _ h hF => ⟨h.1, hF⟩
theorem main_1_2 : Claimed_1_2 := comes_1 fun _ _ _ _ _ _ h hF => ⟨h.2.1, hF⟩
end Jvm.Pilot.@@N@@
namespace Jvm.Pilot.@@N@@
open Jvm Jvm.ClassFile Sem Op Lib Jvm.Free Jvm.Stand Jvm.Pilot.@@N@@.Jvm.D
/-! MADE BY PROGRAM (witnessworld.py) out of the Statement's table words and the real class files: 10 classes; the members and pool entries that the words name. The judged class is class 1, her method 1. -/
namespace start1
open Jvm.ClassFile
def u (s : String) : CpInfo := .utf8 (stringToUtf16 s)
/-- a pool by its gaps: so many unusable entries, then the entry; so many at the end -/
def gap : Nat → List CpInfo → List CpInfo
  | 0, r => r
  | n + 1, r => .unusable :: gap n r
def poolList (es : List (Nat × CpInfo)) (last : Nat) : List CpInfo := es.foldr (fun e r => gap e.1 (e.2 :: r)) (gap last [])
def pool (es : List (Nat × CpInfo)) (last : Nat) : Array CpInfo := ⟨poolList es last⟩
def fileOf (pool : Array CpInfo) (this : Nat) (attrs : Array Attribute := #[]) (ms : Array MethodInfo := #[]) (fl : Nat := 33) (sup : Nat := 0) (ifs : Array Nat := #[]) (fds : Array FieldInfo := #[]) : ClassFile where
  minorVersion := 0
  majorVersion := 65
  constantPool := pool
  accessFlags := fl
  thisClass := this
  superClass := sup
  interfaces := ifs
  fields := fds
  methods := ms
  attributes := attrs
def plain (name : String) (sup : Option ClassId) : Class where
  name := name
  kind := .ordinary
  loader := none
  accessFlags := 33
  super := sup
  interfaces := #[]
  cf := none
  fields := #[]
  methods := #[]
  instanceTypes := #[]
  staticTypes := #[]
  resolved := #[]
  callSites := []
  init := .initialized
  statics := none
  mirror := none

def pool0 : Array CpInfo := pool [(5, u "<init>"), (0, u "()V"), (1, .class_ 10), (1, u "java/lang/Object")] 113

def k0c0 : Code := { maxStack := 0, maxLocals := 1, code := object_method_1_code, exceptionTable := #[], attributes := #[] }
def k0m0 : Method := { name := "<init>", desc := "()V", sig := { parameters := [], returnType := none }, accessFlags := 1, code := some k0c0 }
/-- java/lang/Object -/
def k0 : Class := { plain "java/lang/Object" none with
  accessFlags := 33
  interfaces := #[]
  cf := some (fileOf pool0 8 #[] #[{ accessFlags := 1, nameIndex := 5, descriptorIndex := 6, attributes := #[] }] 33 0 #[] #[])
  fields := #[]
  methods := #[k0m0]
  instanceTypes := #[]
  staticTypes := #[]
  resolved := Array.replicate 124 none
  statics := none }

def pool1 : Array CpInfo := pool [(2, .class_ 4), (1, u "java/lang/Object"), (0, u "<init>"), (0, u "()V"), (0, .methodref 8 9), (0, .class_ 10), (0, .nameAndType 11 12), (0, u "com/example/medspan/medspan/ProportionCounts"), (0, u "of"), (0, u "(ZZZZ)Lcom/example/medspan/medspan/ProportionCounts;"), (0, .methodref 8 14), (0, .nameAndType 15 16), (0, u "initialPopulation"), (0, u "()J"), (0, .methodref 18 19), (0, .class_ 20), (0, .nameAndType 21 22), (0, u "com/example/medspan/medspan/ProportionCountsCountPinLaw"), (0, u "counts"), (0, u "(JZ)Z"), (0, .methodref 8 24), (0, .nameAndType 25 16), (0, u "denominator"), (0, .methodref 8 27), (0, .nameAndType 28 16), (0, u "denominatorExclusion"), (0, .methodref 8 30), (0, .nameAndType 31 16), (0, u "numerator"), (2, u "law"), (0, u "(I)Z")] 3

def k1m0 : Method := { name := "<init>", desc := "()V", sig := { parameters := [], returnType := none }, accessFlags := 1, code := none }
def k1c1 : Code := { maxStack := 4, maxLocals := 6, code := code, exceptionTable := #[], attributes := #[] }
def k1m1 : Method := { name := "law", desc := "(I)Z", sig := { parameters := [.int], returnType := some .boolean }, accessFlags := 9, code := some k1c1 }
def k1c2 : Code := { maxStack := 4, maxLocals := 3, code := method_3_code, exceptionTable := #[], attributes := #[] }
def k1m2 : Method := { name := "counts", desc := "(JZ)Z", sig := { parameters := [.long, .boolean], returnType := some .boolean }, accessFlags := 10, code := some k1c2 }
/-- com/example/medspan/medspan/ProportionCountsCountPinLaw -/
def k1 : Class := { plain "com/example/medspan/medspan/ProportionCountsCountPinLaw" (some 0) with
  accessFlags := 49
  interfaces := #[]
  cf := some (fileOf pool1 18 #[] #[{ accessFlags := 1, nameIndex := 5, descriptorIndex := 6, attributes := #[] }, { accessFlags := 9, nameIndex := 34, descriptorIndex := 35, attributes := #[] }, { accessFlags := 10, nameIndex := 21, descriptorIndex := 22, attributes := #[] }] 49 2 #[] #[])
  fields := #[]
  methods := #[k1m0, k1m1, k1m2]
  instanceTypes := #[]
  staticTypes := #[]
  resolved := Array.replicate 39 none
  statics := none }

def pool2 : Array CpInfo := pool [(1, .methodref 2 3), (0, .class_ 4), (0, .nameAndType 5 6), (0, u "java/lang/Object"), (0, u "<init>"), (0, u "()V"), (0, .class_ 8), (0, u "java/lang/Record")] 13

def k2c0 : Code := { maxStack := 1, maxLocals := 1, code := jdk_30_method_1_code, exceptionTable := #[], attributes := #[] }
def k2m0 : Method := { name := "<init>", desc := "()V", sig := { parameters := [], returnType := none }, accessFlags := 4, code := some k2c0 }
/-- java/lang/Record -/
def k2 : Class := { plain "java/lang/Record" (some 0) with
  accessFlags := 1057
  interfaces := #[]
  cf := some (fileOf pool2 7 #[] #[{ accessFlags := 4, nameIndex := 5, descriptorIndex := 6, attributes := #[] }] 1057 2 #[] #[])
  fields := #[]
  methods := #[k2m0]
  instanceTypes := #[]
  staticTypes := #[]
  resolved := Array.replicate 22 none
  statics := none }

def pool3 : Array CpInfo := pool [(1, .methodref 2 3), (0, .class_ 4), (0, .nameAndType 5 6), (0, u "java/lang/Record"), (0, u "<init>"), (0, u "()V"), (0, .fieldref 8 9), (0, .class_ 10), (0, .nameAndType 11 12), (0, u "com/example/medspan/medspan/ProportionCounts"), (0, u "initialPopulation"), (0, u "J"), (0, .fieldref 8 14), (0, .nameAndType 15 12), (0, u "denominator"), (0, .fieldref 8 17), (0, .nameAndType 18 12), (0, u "denominatorExclusion"), (0, .fieldref 8 20), (0, .nameAndType 21 12), (0, u "numerator"), (0, .methodref 8 23), (0, .nameAndType 24 25), (0, u "count"), (0, u "(Z)J"), (0, .methodref 8 27), (0, .nameAndType 5 28), (0, u "(JJJJ)V"), (1, .class_ 32), (1, u "com/example/medspan/medspan/ProportionCounts$Population"), (15, u "SCORE_DIGITS"), (0, u "Ljava/math/MathContext;"), (18, u "NONE"), (0, u "Lcom/example/medspan/medspan/ProportionCounts;"), (5, u "POPULATION_SYSTEM"), (0, u "Ljava/lang/String;"), (6, u "of"), (0, u "(ZZZZ)Lcom/example/medspan/medspan/ProportionCounts;"), (8, u "()J")] 26

def k3c0 : Code := { maxStack := 3, maxLocals := 9, code := prog_26_method_1_code, exceptionTable := #[], attributes := #[] }
def k3m0 : Method := { name := "<init>", desc := "(JJJJ)V", sig := { parameters := [.long, .long, .long, .long], returnType := none }, accessFlags := 0, code := some k3c0 }
def k3c1 : Code := { maxStack := 10, maxLocals := 4, code := prog_26_method_2_code, exceptionTable := #[], attributes := #[] }
def k3m1 : Method := { name := "of", desc := "(ZZZZ)Lcom/example/medspan/medspan/ProportionCounts;", sig := { parameters := [.boolean, .boolean, .boolean, .boolean], returnType := some (.object "com/example/medspan/medspan/ProportionCounts") }, accessFlags := 8, code := some k3c1 }
def k3c2 : Code := { maxStack := 2, maxLocals := 1, code := prog_26_method_3_code, exceptionTable := #[], attributes := #[] }
def k3m2 : Method := { name := "count", desc := "(Z)J", sig := { parameters := [.boolean], returnType := some .long }, accessFlags := 10, code := some k3c2 }
def k3c3 : Code := { maxStack := 2, maxLocals := 1, code := prog_26_method_10_code, exceptionTable := #[], attributes := #[] }
def k3m3 : Method := { name := "initialPopulation", desc := "()J", sig := { parameters := [], returnType := some .long }, accessFlags := 1, code := some k3c3 }
def k3c4 : Code := { maxStack := 2, maxLocals := 1, code := prog_26_method_11_code, exceptionTable := #[], attributes := #[] }
def k3m4 : Method := { name := "denominator", desc := "()J", sig := { parameters := [], returnType := some .long }, accessFlags := 1, code := some k3c4 }
def k3c5 : Code := { maxStack := 2, maxLocals := 1, code := prog_26_method_12_code, exceptionTable := #[], attributes := #[] }
def k3m5 : Method := { name := "denominatorExclusion", desc := "()J", sig := { parameters := [], returnType := some .long }, accessFlags := 1, code := some k3c5 }
def k3c6 : Code := { maxStack := 2, maxLocals := 1, code := prog_26_method_13_code, exceptionTable := #[], attributes := #[] }
def k3m6 : Method := { name := "numerator", desc := "()J", sig := { parameters := [], returnType := some .long }, accessFlags := 1, code := some k3c6 }
/-- com/example/medspan/medspan/ProportionCounts -/
def k3 : Class := { plain "com/example/medspan/medspan/ProportionCounts" (some 2) with
  accessFlags := 48
  interfaces := #[]
  cf := some (fileOf pool3 8 #[.nestMembers #[30]] #[{ accessFlags := 0, nameIndex := 5, descriptorIndex := 28, attributes := #[] }, { accessFlags := 8, nameIndex := 83, descriptorIndex := 84, attributes := #[] }, { accessFlags := 10, nameIndex := 24, descriptorIndex := 25, attributes := #[] }, { accessFlags := 1, nameIndex := 11, descriptorIndex := 93, attributes := #[] }, { accessFlags := 1, nameIndex := 15, descriptorIndex := 93, attributes := #[] }, { accessFlags := 1, nameIndex := 18, descriptorIndex := 93, attributes := #[] }, { accessFlags := 1, nameIndex := 21, descriptorIndex := 93, attributes := #[] }] 48 2 #[] #[{ accessFlags := 18, nameIndex := 11, descriptorIndex := 12, attributes := #[] }, { accessFlags := 18, nameIndex := 15, descriptorIndex := 12, attributes := #[] }, { accessFlags := 18, nameIndex := 18, descriptorIndex := 12, attributes := #[] }, { accessFlags := 18, nameIndex := 21, descriptorIndex := 12, attributes := #[] }, { accessFlags := 24, nameIndex := 68, descriptorIndex := 69, attributes := #[] }, { accessFlags := 24, nameIndex := 75, descriptorIndex := 76, attributes := #[] }, { accessFlags := 26, nameIndex := 48, descriptorIndex := 49, attributes := #[] }])
  fields := #[{ name := "initialPopulation", type := .long, accessFlags := 18, slot := 0, constantValue := 0 }, { name := "denominator", type := .long, accessFlags := 18, slot := 1, constantValue := 0 }, { name := "denominatorExclusion", type := .long, accessFlags := 18, slot := 2, constantValue := 0 }, { name := "numerator", type := .long, accessFlags := 18, slot := 3, constantValue := 0 }, { name := "NONE", type := (.object "com/example/medspan/medspan/ProportionCounts"), accessFlags := 24, slot := 0, constantValue := 0 }, { name := "POPULATION_SYSTEM", type := (.object "java/lang/String"), accessFlags := 24, slot := 1, constantValue := 0 }, { name := "SCORE_DIGITS", type := (.object "java/math/MathContext"), accessFlags := 26, slot := 2, constantValue := 0 }]
  methods := #[k3m0, k3m1, k3m2, k3m3, k3m4, k3m5, k3m6]
  instanceTypes := #[.long, .long, .long, .long]
  staticTypes := #[(.object "com/example/medspan/medspan/ProportionCounts"), (.object "java/lang/String"), (.object "java/math/MathContext")]
  resolved := Array.replicate 120 none
  statics := none }

def pool4 : Array CpInfo := pool [(1, u "java/lang/Cloneable"), (0, .class_ 1), (0, u "java/lang/Object"), (0, .class_ 3)] 3

/-- java/lang/Cloneable -/
def k4 : Class := { plain "java/lang/Cloneable" (some 0) with
  accessFlags := 1537
  interfaces := #[]
  cf := some (fileOf pool4 2 #[] #[] 1537 4 #[] #[])
  fields := #[]
  methods := #[]
  instanceTypes := #[]
  staticTypes := #[]
  resolved := Array.replicate 8 none
  statics := none }

def pool5 : Array CpInfo := pool [(1, u "java/io/Serializable"), (0, .class_ 1), (0, u "java/lang/Object"), (0, .class_ 3)] 3

/-- java/io/Serializable -/
def k5 : Class := { plain "java/io/Serializable" (some 0) with
  accessFlags := 1537
  interfaces := #[]
  cf := some (fileOf pool5 2 #[] #[] 1537 4 #[] #[])
  fields := #[]
  methods := #[]
  instanceTypes := #[]
  staticTypes := #[]
  resolved := Array.replicate 8 none
  statics := none }

/-- the primitive byte -/
def k6 : Class := { plain "byte" none with kind := .primitive 'B', accessFlags := 0x411 }
/-- [B -/
def k7 : Class := { plain "[B" (some 0) with kind := .array 6 .byte, interfaces := #[4, 5], accessFlags := 1041 }

/-- the primitive int -/
def k8 : Class := { plain "int" none with kind := .primitive 'I', accessFlags := 0x411 }
/-- [I -/
def k9 : Class := { plain "[I" (some 0) with kind := .array 8 .int, interfaces := #[4, 5], accessFlags := 1041 }

def heap : Heap := #[]
def classes : Array Class := #[k0, k1, k2, k3, k4, k5, k6, k7, k8, k9]
def interned : List (Array UInt16 × Addr) := []
def slotsUsed : Nat := 0
def theMethod : MethodId := ⟨1, 1⟩
def args0 : Array Value := #[.int 7]
def aboutOver (below : List Frame) : State where
  vm := { classes := classes, interned := interned.toArray }
  heap := heap
  slotsUsed := slotsUsed
  threads := #[{ frames := .invoking theMethod args0 :: below }]
def below0 : List Frame := [.native { method := ⟨0, 0⟩, args := #[] }]
def about1 : State := aboutOver below0
def p0 : Program := .bare "" "" ""
def e0 : Env := launch0.env 0 0 0
theorem w_frames : about1.frames = Frame.invoking theMethod args0 :: below0 := rfl
set_option maxRecDepth 65536 in
theorem w_args : argsFit about1.vm theMethod args0 = true := by decide +kernel
set_option maxRecDepth 65536 in
theorem w_heap : heapFits about1 = true := by decide +kernel
set_option maxRecDepth 65536 in
theorem w_runnable : about1.curStatus? = some .runnable := by decide +kernel
set_option maxRecDepth 65536 in
theorem w_alone : about1.alone = true := by decide +kernel
set_option maxRecDepth 65536 in
theorem w_named : about1.methodNamed? x = some theMethod := by decide +kernel
set_option maxRecDepth 65536 in
theorem w_hears : about1.hears theMethod below0 = true := by decide +kernel
set_option maxRecDepth 65536 in
theorem w_ripe : about1.ripe theMethod args0 below0 = true := by decide +kernel
theorem w_running : about1.status = .running := rfl
set_option maxRecDepth 65536 in
theorem w_room : about1.hasRoom e0.platform room_1 = true :=
  launch0.hasRoom_least _ room_1 (by decide +kernel) (by decide +kernel) (by decide +kernel) (by decide +kernel) (by decide +kernel) (by decide +kernel)
theorem allAtoms_all (ts : List Jvm.Cond) (a : Array Jvm.Value) (st : Jvm.State) : (allAtoms ts).before a st = ts.all (fun c => c.before a st) := by
  induction ts with
  | nil => rfl
  | cons c t ih =>
    show (Jvm.Cond.and c (allAtoms t)).before a st = _
    rw [Jvm.Cond.before_and, ih, List.all_cons]
def words1 : List Jvm.Cond := Jvm.Cond.code x code maxLocals ret :: tables_1
/-- a 'code' word, met by the world's own term for the bytes: nothing is compared byte by byte -/
theorem code_word {y : MethodName} {bytes : ByteArray} {mx : Nat} {rt : Option FieldType} {a : Array Value} {s : State} {m : MethodId} {meth : Method} {c : Code} (h1 : s.methodNamed? y = some m) (h2 : s.vm.method? m = some meth) (h3 : meth.code = some c) (h4 : c.code = bytes)
    (h5 : (c.maxLocals == mx && c.exceptionTable.isEmpty && decide (c.maxStack ≤ mostOperands) && decide (meth.sig.returnType = rt) && !meth.locks && decide (parseMethodDescriptor y.desc = some meth.sig)) = true) : (Jvm.Cond.code y bytes mx rt).before a s = true := by
  simp only [Bool.and_eq_true, beq_iff_eq, Bool.not_eq_true', decide_eq_true_eq] at h5
  obtain ⟨⟨⟨⟨⟨g1, g2⟩, g3⟩, g4⟩, g5⟩, g6⟩ := h5
  simp [Cond.before, Cond.holds, Cond.value, h1, h2, h3, h4, g1, g2, g3, g4, g5, g6]
def isCode : Jvm.Cond → Bool
  | .code _ _ _ _ => true
  | _ => false
theorem all_split {L : List Jvm.Cond} {P : Jvm.Cond → Bool} (h1 : L.all (fun c => isCode c || P c) = true) (h2 : ∀ c ∈ L.filter isCode, P c = true) : L.all P = true := by
  refine List.all_eq_true.mpr fun c hc => ?_
  have h := List.all_eq_true.mp h1 c hc
  rcases Bool.eq_false_or_eq_true (isCode c) with hi | hi
  · exact h2 c (List.mem_filter.mpr ⟨hc, hi⟩)
  · simpa [hi] using h
set_option maxRecDepth 65536 in
theorem w_c0 : (Jvm.Cond.code x code maxLocals ret).before args0 about1 = true := code_word (m := ⟨1, 1⟩) (meth := k1m1) (c := k1c1) (by decide +kernel) rfl rfl rfl (by decide +kernel)
set_option maxRecDepth 65536 in
theorem w_c1 : (Jvm.Cond.code ({ cls := "com/example/medspan/medspan/ProportionCounts", name := "of", desc := "(ZZZZ)Lcom/example/medspan/medspan/ProportionCounts;" } : Jvm.MethodName) prog_26_method_2_code (4 : Nat) (Option.some (Jvm.ClassFile.FieldType.object "com/example/medspan/medspan/ProportionCounts"))).before args0 about1 = true := code_word (m := ⟨3, 1⟩) (meth := k3m1) (c := k3c1) (by decide +kernel) rfl rfl rfl (by decide +kernel)
set_option maxRecDepth 65536 in
theorem w_c2 : (Jvm.Cond.code ({ cls := "com/example/medspan/medspan/ProportionCounts", name := "count", desc := "(Z)J" } : Jvm.MethodName) prog_26_method_3_code (1 : Nat) (Option.some Jvm.ClassFile.FieldType.long)).before args0 about1 = true := code_word (m := ⟨3, 2⟩) (meth := k3m2) (c := k3c2) (by decide +kernel) rfl rfl rfl (by decide +kernel)
set_option maxRecDepth 65536 in
theorem w_c3 : (Jvm.Cond.code ({ cls := "com/example/medspan/medspan/ProportionCounts", name := "<init>", desc := "(JJJJ)V" } : Jvm.MethodName) prog_26_method_1_code (9 : Nat) (Option.none : Option Jvm.ClassFile.FieldType)).before args0 about1 = true := code_word (m := ⟨3, 0⟩) (meth := k3m0) (c := k3c0) (by decide +kernel) rfl rfl rfl (by decide +kernel)
set_option maxRecDepth 65536 in
theorem w_c4 : (Jvm.Cond.code ({ cls := "java/lang/Record", name := "<init>", desc := "()V" } : Jvm.MethodName) jdk_30_method_1_code (1 : Nat) (Option.none : Option Jvm.ClassFile.FieldType)).before args0 about1 = true := code_word (m := ⟨2, 0⟩) (meth := k2m0) (c := k2c0) (by decide +kernel) rfl rfl rfl (by decide +kernel)
set_option maxRecDepth 65536 in
theorem w_c5 : (Jvm.Cond.code ({ cls := "java/lang/Object", name := "<init>", desc := "()V" } : Jvm.MethodName) object_method_1_code (1 : Nat) (Option.none : Option Jvm.ClassFile.FieldType)).before args0 about1 = true := code_word (m := ⟨0, 0⟩) (meth := k0m0) (c := k0c0) (by decide +kernel) rfl rfl rfl (by decide +kernel)
set_option maxRecDepth 65536 in
theorem w_c6 : (Jvm.Cond.code ({ cls := "com/example/medspan/medspan/ProportionCounts", name := "initialPopulation", desc := "()J" } : Jvm.MethodName) prog_26_method_10_code (1 : Nat) (Option.some Jvm.ClassFile.FieldType.long)).before args0 about1 = true := code_word (m := ⟨3, 3⟩) (meth := k3m3) (c := k3c3) (by decide +kernel) rfl rfl rfl (by decide +kernel)
set_option maxRecDepth 65536 in
theorem w_c7 : (Jvm.Cond.code ({ cls := "com/example/medspan/medspan/ProportionCountsCountPinLaw", name := "counts", desc := "(JZ)Z" } : Jvm.MethodName) method_3_code (3 : Nat) (Option.some Jvm.ClassFile.FieldType.boolean)).before args0 about1 = true := code_word (m := ⟨1, 2⟩) (meth := k1m2) (c := k1c2) (by decide +kernel) rfl rfl rfl (by decide +kernel)
set_option maxRecDepth 65536 in
theorem w_c8 : (Jvm.Cond.code ({ cls := "com/example/medspan/medspan/ProportionCounts", name := "denominator", desc := "()J" } : Jvm.MethodName) prog_26_method_11_code (1 : Nat) (Option.some Jvm.ClassFile.FieldType.long)).before args0 about1 = true := code_word (m := ⟨3, 4⟩) (meth := k3m4) (c := k3c4) (by decide +kernel) rfl rfl rfl (by decide +kernel)
set_option maxRecDepth 65536 in
theorem w_c9 : (Jvm.Cond.code ({ cls := "com/example/medspan/medspan/ProportionCounts", name := "denominatorExclusion", desc := "()J" } : Jvm.MethodName) prog_26_method_12_code (1 : Nat) (Option.some Jvm.ClassFile.FieldType.long)).before args0 about1 = true := code_word (m := ⟨3, 5⟩) (meth := k3m5) (c := k3c5) (by decide +kernel) rfl rfl rfl (by decide +kernel)
set_option maxRecDepth 65536 in
theorem w_c10 : (Jvm.Cond.code ({ cls := "com/example/medspan/medspan/ProportionCounts", name := "numerator", desc := "()J" } : Jvm.MethodName) prog_26_method_13_code (1 : Nat) (Option.some Jvm.ClassFile.FieldType.long)).before args0 about1 = true := code_word (m := ⟨3, 6⟩) (meth := k3m6) (c := k3c6) (by decide +kernel) rfl rfl rfl (by decide +kernel)
def codes1 : List Jvm.Cond := [Jvm.Cond.code x code maxLocals ret, Jvm.Cond.code ({ cls := "com/example/medspan/medspan/ProportionCounts", name := "of", desc := "(ZZZZ)Lcom/example/medspan/medspan/ProportionCounts;" } : Jvm.MethodName) prog_26_method_2_code (4 : Nat) (Option.some (Jvm.ClassFile.FieldType.object "com/example/medspan/medspan/ProportionCounts")), Jvm.Cond.code ({ cls := "com/example/medspan/medspan/ProportionCounts", name := "count", desc := "(Z)J" } : Jvm.MethodName) prog_26_method_3_code (1 : Nat) (Option.some Jvm.ClassFile.FieldType.long), Jvm.Cond.code ({ cls := "com/example/medspan/medspan/ProportionCounts", name := "<init>", desc := "(JJJJ)V" } : Jvm.MethodName) prog_26_method_1_code (9 : Nat) (Option.none : Option Jvm.ClassFile.FieldType), Jvm.Cond.code ({ cls := "java/lang/Record", name := "<init>", desc := "()V" } : Jvm.MethodName) jdk_30_method_1_code (1 : Nat) (Option.none : Option Jvm.ClassFile.FieldType), Jvm.Cond.code ({ cls := "java/lang/Object", name := "<init>", desc := "()V" } : Jvm.MethodName) object_method_1_code (1 : Nat) (Option.none : Option Jvm.ClassFile.FieldType), Jvm.Cond.code ({ cls := "com/example/medspan/medspan/ProportionCounts", name := "initialPopulation", desc := "()J" } : Jvm.MethodName) prog_26_method_10_code (1 : Nat) (Option.some Jvm.ClassFile.FieldType.long), Jvm.Cond.code ({ cls := "com/example/medspan/medspan/ProportionCountsCountPinLaw", name := "counts", desc := "(JZ)Z" } : Jvm.MethodName) method_3_code (3 : Nat) (Option.some Jvm.ClassFile.FieldType.boolean), Jvm.Cond.code ({ cls := "com/example/medspan/medspan/ProportionCounts", name := "denominator", desc := "()J" } : Jvm.MethodName) prog_26_method_11_code (1 : Nat) (Option.some Jvm.ClassFile.FieldType.long), Jvm.Cond.code ({ cls := "com/example/medspan/medspan/ProportionCounts", name := "denominatorExclusion", desc := "()J" } : Jvm.MethodName) prog_26_method_12_code (1 : Nat) (Option.some Jvm.ClassFile.FieldType.long), Jvm.Cond.code ({ cls := "com/example/medspan/medspan/ProportionCounts", name := "numerator", desc := "()J" } : Jvm.MethodName) prog_26_method_13_code (1 : Nat) (Option.some Jvm.ClassFile.FieldType.long)]
set_option maxRecDepth 65536 in
theorem codes_eq : words1.filter isCode = codes1 := rfl
theorem w_codes : ∀ c ∈ words1.filter isCode, c.before args0 about1 = true := by
  rw [codes_eq]
  intro c hc
  simp only [codes1, List.mem_cons, List.not_mem_nil, or_false] at hc
  rcases hc with rfl | rfl | rfl | rfl | rfl | rfl | rfl | rfl | rfl | rfl | rfl
  · exact w_c0
  · exact w_c1
  · exact w_c2
  · exact w_c3
  · exact w_c4
  · exact w_c5
  · exact w_c6
  · exact w_c7
  · exact w_c8
  · exact w_c9
  · exact w_c10
set_option maxRecDepth 65536 in
theorem w_t1 : (words1.take 24).all (fun c => isCode c || c.before args0 about1) = true := by decide +kernel
set_option maxRecDepth 65536 in
theorem w_t2 : ((words1.drop 24).take 24).all (fun c => isCode c || c.before args0 about1) = true := by decide +kernel
set_option maxRecDepth 65536 in
theorem w_t3 : ((words1.drop 24).drop 24).all (fun c => isCode c || c.before args0 about1) = true := by decide +kernel
theorem w_tables : (allAtoms (Jvm.Cond.code x code maxLocals ret :: tables_1)).before args0 about1 = true := by
  rw [allAtoms_all]
  show words1.all (fun c => c.before args0 about1) = true
  refine all_split ?_ w_codes
  rw [← List.take_append_drop 24 words1, List.all_append, w_t1, ← List.take_append_drop 24 (words1.drop 24), List.all_append, w_t2, w_t3]
  rfl
set_option maxRecDepth 65536 in
theorem w_case : (Jvm.Cond.and given_1 narrow_1).before args0 about1 = true := by decide +kernel
theorem w_applies : (headSpec (Jvm.Cond.code x code maxLocals ret :: tables_1) room_1).applies x e0.platform about1 = true :=
  (Spec.applies_iff w_frames).mpr ⟨w_running, w_runnable, w_alone, w_named, w_hears, w_ripe, w_room, w_tables⟩
theorem atStart : AtStart classFile x code maxLocals ret World_1 tables_1 room_1 Calls_1 rest_1 Pre_1 launch0 p0 e0 about1 theMethod args0 below0 :=
  ⟨lists_1, trivial, launch0.admits_env _ _ _, launch0.least_env, fairChoices_fair.cas, fairChoices_fair.clock, w_frames, w_args, w_heap, w_applies, trivial, trivial, w_case⟩
end start1
theorem witness_1 : WitnessClaimed_1 := ⟨start1.p0, start1.e0, start1.about1, start1.theMethod, start1.args0, start1.below0, start1.atStart⟩
end Jvm.Pilot.@@N@@
