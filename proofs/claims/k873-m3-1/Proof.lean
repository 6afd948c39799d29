import JvmDerived
import JvmDerived.Pilot.@@N@@Statement
import JvmDerived.Pilot.@@N@@Code
set_option linter.unusedVariables false
set_option linter.unusedSimpArgs false
namespace Jvm.RoadKit
open Sem ClassFile Op Lib Jvm.Stand Jvm.Free Jvm.LawKit
section New
variable {p : Program} {l : Launch} {e : Env} {R : Room} {s : State} {m : MethodId} {args : Array Value} {below : List Frame} {meth : Method} {c : Code} {T : State} {locs : List Loc} {cells slots : Nat}
theorem retI (X : Stand p l e R s m args below meth c T locs cells slots) (hx : p.tables.exec = Jvm.exec) {pc : Nat} {Ls : Array Slot} {z : Int32} {rest : List Value} (hret : meth.sig.returnType = some .int) (hd : decode c.code pc = .ok (.ireturn, 1)) {fs : List Frame}
    (hl : ∀ (f : JFrame) (acts : List Action), f.method = m → f.locked = none → f.entered = [] → (doReturn e (T.setTop f) acts (some (.int z))).1 = T.setFrames fs) : Steps p.tables e below (T.setTop (mkF m pc Ls (.int z :: rest))) (T.setFrames fs) := by
  have hm' : T.vm.method? m = some meth := X.method'
  have hn : narrow .int (.int z) = .int z := rfl
  show Steps p.tables e below (T.setTop { method := m, pc := pc, locals := Ls, stack := _ :: rest, locked := none }) _
  jvm_step X.here [X.here.top, hx, hd, hm', hret, hn]
  first | (intro acts; rw [hl _ acts rfl rfl rfl]) | rw [hl _ _ rfl rfl rfl]
  exact Steps.refl _
end New
end Jvm.RoadKit
namespace Jvm.Pilot.@@N@@
open Jvm Jvm.ClassFile Sem Op Lib Jvm.Free Jvm.Stand Jvm.LawKit Jvm.RoadKit Bundle Jvm.Pilot.@@N@@.Jvm.D
def f4 (u1 : Int32) (u2 : Int32) (u3 : Int32) : Int32 := u1
def f5 (u1 : Int32) (u2 : Int32) (u3 : Int32) : Int32 := u2
def f6 (u1 : Int32) (u2 : Int32) (u3 : Int32) : Int32 := u3
def f7 (u1 : Int32) (u2 : Int32) (u3 : Int32) : Int32 := ((u1 - u2) - u3)
def f0_0 (p1 : Int32) (p2 : Int32) (p3 : Int32) (p4 : Int32) (p5 : Int32) (p6 : Int32) : Int32 := (if (f6 (p1 + p4) (p2 + p5) (p3 + p6)) = (p3 + p6) then (1 : Int32) else (0 : Int32))
def f0_1 (p1 : Int32) (p2 : Int32) (p3 : Int32) (p4 : Int32) (p5 : Int32) (p6 : Int32) : Int32 := (if (f5 (p1 + p4) (p2 + p5) (p3 + p6)) = (p2 + p5) then (f0_0 p1 p2 p3 p4 p5 p6) else (0 : Int32))
def f0_2 (p1 : Int32) (p2 : Int32) (p3 : Int32) (p4 : Int32) (p5 : Int32) (p6 : Int32) : Int32 := (if (f4 (p1 + p4) (p2 + p5) (p3 + p6)) = (p1 + p4) then (f0_1 p1 p2 p3 p4 p5 p6) else (0 : Int32))
def f0_3 (p1 : Int32) (p2 : Int32) (p3 : Int32) (p4 : Int32) (p5 : Int32) (p6 : Int32) : Int32 := (if (f7 (p1 + p4) (p2 + p5) (p3 + p6)) = ((f7 p1 p2 p3) + (f7 p4 p5 p6)) then (1 : Int32) else (0 : Int32))
def f0_4 (p1 : Int32) (p2 : Int32) (p3 : Int32) (p4 : Int32) (p5 : Int32) (p6 : Int32) : Int32 := (if (f0_3 p1 p2 p3 p4 p5 p6) = (0 : Int32) then (0 : Int32) else (1 : Int32))
def f0_5 (p1 : Int32) (p2 : Int32) (p3 : Int32) (p4 : Int32) (p5 : Int32) (p6 : Int32) : Int32 := (if (f0_2 p1 p2 p3 p4 p5 p6) = (0 : Int32) then (0 : Int32) else (f0_4 p1 p2 p3 p4 p5 p6))
def f0 (p1 : Int32) (p2 : Int32) (p3 : Int32) (p4 : Int32) (p5 : Int32) (p6 : Int32) : Int32 := ((f0_5 p1 p2 p3 p4 p5 p6) &&& 1)
theorem own_r2 (a b c d e f : Int32) : ((a + d) - (b + e)) - (c + f) = ((a - b) - c) + ((d - e) - f) := by grind
theorem own_law (p1 p2 p3 p4 p5 p6 : Int32) : f0 p1 p2 p3 p4 p5 p6 = 1 := by
  have e0 : f0_0 p1 p2 p3 p4 p5 p6 = 1 := if_pos rfl
  have e1 : f0_1 p1 p2 p3 p4 p5 p6 = 1 := (if_pos rfl).trans e0
  have e2 : f0_2 p1 p2 p3 p4 p5 p6 = 1 := (if_pos rfl).trans e1
  have e3 : f0_3 p1 p2 p3 p4 p5 p6 = 1 := if_pos (own_r2 p1 p2 p3 p4 p5 p6)
  rw [f0, f0_5, e2, f0_4, e3]
  decide

abbrev own_G (tb : Tables) (e : Env) (below : List Frame) (Q : Outcome → State → Prop) (A : State) : Prop := ∃ s₂ o, Steps tb e below A s₂ ∧ s₂.status = .running ∧ Ended s₂ below o ∧ Q o s₂
theorem own_step {tb : Tables} {e : Env} {below : List Frame} {Q : Outcome → State → Prop} {A B : State} (h : ∀ t, Steps tb e below B t → Steps tb e below A t) (g : own_G tb e below Q B) : own_G tb e below Q A := by
  obtain ⟨s2, o, h1, h2⟩ := g
  exact ⟨s2, o, h _ h1, h2⟩
theorem own_aT {x y : Addr} (h : x = y) : XT.acmp .eq (.ref x) (.ref y) = true ∧ XT.acmp .ne (.ref x) (.ref y) = false := by subst h; exact ⟨by simp [XT.acmp], by simp [XT.acmp]⟩
theorem own_aF {x y : Addr} (h : ¬ x = y) : XT.acmp .eq (.ref x) (.ref y) = false ∧ XT.acmp .ne (.ref x) (.ref y) = true := by simp [XT.acmp, h]
theorem own_cl (x y : Int64) : XT.cmpL x y < 0 ↔ x < y := lw_lt x y
theorem own_cg (x y : Int64) : 0 < XT.cmpL x y ↔ y < x := lw_gt x y
theorem own_ce (x y : Int64) : XT.cmpL x y = 0 ↔ x = y := lw_eq x y
theorem pd_0 : parseMethodDescriptor "(III)V" = some ⟨[.int, .int, .int], none⟩ := by decide +kernel
theorem pd_1 : parseMethodDescriptor "(Lcom/example/hitotabi/hitotabi/RelayTick;)Lcom/example/hitotabi/hitotabi/RelayTick;" = some ⟨[(.object "com/example/hitotabi/hitotabi/RelayTick")], some (.object "com/example/hitotabi/hitotabi/RelayTick")⟩ := by decide +kernel
theorem pd_2 : parseMethodDescriptor "()I" = some ⟨[], some .int⟩ := by decide +kernel
theorem d1_0 : decode prog_28_method_1_code 0 = .ok (.aload_n 0, 1) := by decide +kernel
theorem d1_1 : decode prog_28_method_1_code 1 = .ok (.invokespecial 1, 3) := by decide +kernel
theorem d1_4 : decode prog_28_method_1_code 4 = .ok (.aload_n 0, 1) := by decide +kernel
theorem d1_5 : decode prog_28_method_1_code 5 = .ok (.iload_n 1, 1) := by decide +kernel
theorem d1_6 : decode prog_28_method_1_code 6 = .ok (.putfield 7, 3) := by decide +kernel
theorem d1_9 : decode prog_28_method_1_code 9 = .ok (.aload_n 0, 1) := by decide +kernel
theorem d1_10 : decode prog_28_method_1_code 10 = .ok (.iload_n 2, 1) := by decide +kernel
theorem d1_11 : decode prog_28_method_1_code 11 = .ok (.putfield 13, 3) := by decide +kernel
theorem d1_14 : decode prog_28_method_1_code 14 = .ok (.aload_n 0, 1) := by decide +kernel
theorem d1_15 : decode prog_28_method_1_code 15 = .ok (.iload_n 3, 1) := by decide +kernel
theorem d1_16 : decode prog_28_method_1_code 16 = .ok (.putfield 16, 3) := by decide +kernel
theorem d1_19 : decode prog_28_method_1_code 19 = .ok (.return_, 1) := by decide +kernel
theorem pn_1 : plainName "com/example/hitotabi/hitotabi/RelayTick" = true := by first | (simp [plainName, overriddenIn]; done) | decide +kernel
theorem ef_1 (m : MethodId) (a1 : Addr) (p2 : Int32) (p3 : Int32) (p4 : Int32) : entryFrame m #[(.ref a1), (.int p2), (.int p3), (.int p4)] 4 = mkF m 0 #[.val (.ref a1), .val (.int p2), .val (.int p3), .val (.int p4)] [] := by first | (simp [entryFrame, mkF, argsToLocals, Value.category]; done) | rfl
def Q1 (Z : State) (a1 : Addr) (p2 : Int32) (p3 : Int32) (p4 : Int32) (h0 : Heap) (n0 : Nat) (v : Option Value) (h : Heap) (L : List Loc) : Prop := v = none ∧ Fr n0 L ∧ Keep h0 h [a1] ∧ (Exa Z h a1 "com/example/hitotabi/hitotabi/RelayTick") ∧ (Fld Z h a1 "com/example/hitotabi/hitotabi/RelayTick" "claimed" "I" (.int p2)) ∧ (Fld Z h a1 "com/example/hitotabi/hitotabi/RelayTick" "failed" "I" (.int p4)) ∧ (Fld Z h a1 "com/example/hitotabi/hitotabi/RelayTick" "sent" "I" (.int p3))
set_option maxRecDepth 65536 in
set_option maxHeartbeats 40000000 in
theorem rm1 (l : Launch) (Z : State) (a0 : Array Value) (hw : ∀ d ∈ tables_1, d.before a0 Z = true) (ws : List Jvm.Cond) (a1 : Addr) (p2 : Int32) (p3 : Int32) (p4 : Int32) (h0 : Heap) (n0 : Nat) (Z0 : n0 ≤ h0.size) (E_a1 : Exa Z h0 a1 "com/example/hitotabi/hitotabi/RelayTick") (G_a1 : n0 ≤ a1) (F_a1_claimed : Fld Z h0 a1 "com/example/hitotabi/hitotabi/RelayTick" "claimed" "I" (.int (0 : Int32))) (F_a1_sent : Fld Z h0 a1 "com/example/hitotabi/hitotabi/RelayTick" "sent" "I" (.int (0 : Int32))) (F_a1_failed : Fld Z h0 a1 "com/example/hitotabi/hitotabi/RelayTick" "failed" "I" (.int (0 : Int32))) :
    MetFree l (⟨"com/example/hitotabi/hitotabi/RelayTick", "<init>", "(III)V"⟩ : MethodName) (head1 (Jvm.Cond.code (⟨"com/example/hitotabi/hitotabi/RelayTick", "<init>", "(III)V"⟩ : MethodName) prog_28_method_1_code 4 none :: ws) ({ frames := 1, cells := 0, slots := 0, locals := 12 } : Room)) (fun a U => a = #[(.ref a1), (.int p2), (.int p3), (.int p4)] ∧ Z.Warmed39 U.vm ∧ U.heap = h0) (fun _ _ _ _ _ => True) (fun _ U o U' => ∃ v L, o = .returned v ∧ Q1 Z a1 p2 p3 p4 h0 n0 v U'.heap L ∧ FrameEnd U o U' L ({ frames := 1, cells := 0, slots := 0, locals := 12 } : Room).cells ({ frames := 1, cells := 0, slots := 0, locals := 12 } : Room).slots) := by
  refine MetFree.of_bodySF (plainFor_of_name pn_1) hisR ?_
  intro p e s m args below meth c s₁ Bd hml0 hP hK
  obtain ⟨rfl, hZ, hh⟩ := hP
  have hx := Bd.exec
  have hby := Bd.bytes
  have hml : c.maxLocals = 4 := hml0
  have hown : s.vm.findClass "com/example/hitotabi/hitotabi/RelayTick" = some m.cls := findClass_of_methodNamed Bd.named
  have hnm := (name_of_methodNamed Bd.named Bd.method).1
  have X0 : Stand p l e ({ frames := 1, cells := 0, slots := 0, locals := 12 } : Room) s m #[(.ref a1), (.int p2), (.int p3), (.int p4)] below meth c s₁ [] 0 0 := Stand.of_body Bd
  have e0 : s₁.heap = h0 := by rw [← hh, Bd.state]; rfl
  have N0 := Fr.nil n0
  have pre0 : ∀ t, Steps p.tables e below (s₁.setTop (mkF m 0 #[.val (.ref a1), .val (.int p2), .val (.int p3), .val (.int p4)] [])) t → Steps p.tables e below (s₁.setTop (entryFrame m #[(.ref a1), (.int p2), (.int p3), (.int p4)] 4)) t := fun t k => castTop (ef_1 m a1 p2 p3 p4) k
  refine own_step (Q := fun o U' => ∃ v L, o = .returned v ∧ Q1 Z a1 p2 p3 p4 h0 n0 v U'.heap L ∧ FrameEnd s o U' L ({ frames := 1, cells := 0, slots := 0, locals := 12 } : Room).cells ({ frames := 1, cells := 0, slots := 0, locals := 12 } : Room).slots) pre0 ?_
  have K0 : Keep h0 h0 [a1] := Keep.refl h0 [a1]
  obtain ⟨T1, X1, e1, st1⟩ := initO X0 hx hZ hown (hw _ (List.mem_of_getElem? (i := 6) rfl)) (hw _ (List.mem_of_getElem? (i := 7) rfl)) (hw _ (List.mem_of_getElem? (i := 8) rfl)) e0 (g := (mkF m 1 #[.val (.ref a1), .val (.int p2), .val (.int p3), .val (.int p4)] [(.ref a1)])) rfl (by rw [hml]; rfl) rfl (hb hby d1_1) (by decide) (W := 0) (by show 2 * 0 + _ ≤ _; exact Nat.le_of_eq rfl) (by decide)
  obtain ⟨T2, h2, X2, e2, W2, st2⟩ := putF X1 hx hZ hown (host := "") (Or.inl (hw _ (List.mem_of_getElem? (i := 9) rfl))) Via.refl e1 F_a1_claimed E_a1 (Or.inr ⟨(hw _ (List.mem_of_getElem? (i := 10) rfl)), rfl, hnm⟩) (hw _ (List.mem_of_getElem? (i := 1) rfl)) (ty := .int) (by decide) rfl rfl (g := (mkF m 6 #[.val (.ref a1), .val (.int p2), .val (.int p3), .val (.int p4)] [(.int p2), (.ref a1)])) rfl rfl (hb hby d1_6)
  have u2_0 := E_a1.wr W2
  have u2_1 := F_a1_claimed.same W2
  have u2_2 := F_a1_sent.other W2 (Or.inr (slot_ne (Or.inr (hw _ (List.mem_of_getElem? (i := 12) rfl))) (Or.inr (hw _ (List.mem_of_getElem? (i := 10) rfl))) (by decide) (t := .int) (t' := .int) (by decide) (by decide)))
  have u2_3 := F_a1_failed.other W2 (Or.inr (slot_ne (Or.inr (hw _ (List.mem_of_getElem? (i := 14) rfl))) (Or.inr (hw _ (List.mem_of_getElem? (i := 10) rfl))) (by decide) (t := .int) (t' := .int) (by decide) (by decide)))
  have K2 := K0.wr W2 (Or.inl (List.mem_of_getElem? (i := 0) rfl))
  have Z2 : n0 ≤ h2.size := Nat.le_trans Z0 (Keep.of_wr W2).1
  have N2 := Fr.snoc X2 N0 G_a1
  obtain ⟨T3, h3, X3, e3, W3, st3⟩ := putF X2 hx hZ hown (host := "") (Or.inl (hw _ (List.mem_of_getElem? (i := 11) rfl))) Via.refl e2 u2_2 u2_0 (Or.inr ⟨(hw _ (List.mem_of_getElem? (i := 12) rfl)), rfl, hnm⟩) (hw _ (List.mem_of_getElem? (i := 1) rfl)) (ty := .int) (by decide) rfl rfl (g := (mkF m 11 #[.val (.ref a1), .val (.int p2), .val (.int p3), .val (.int p4)] [(.int p3), (.ref a1)])) rfl rfl (hb hby d1_11)
  have u3_0 := u2_0.wr W3
  have u3_1 := u2_1.other W3 (Or.inr (slot_ne (Or.inr (hw _ (List.mem_of_getElem? (i := 10) rfl))) (Or.inr (hw _ (List.mem_of_getElem? (i := 12) rfl))) (by decide) (t := .int) (t' := .int) (by decide) (by decide)))
  have u3_2 := u2_2.same W3
  have u3_3 := u2_3.other W3 (Or.inr (slot_ne (Or.inr (hw _ (List.mem_of_getElem? (i := 14) rfl))) (Or.inr (hw _ (List.mem_of_getElem? (i := 12) rfl))) (by decide) (t := .int) (t' := .int) (by decide) (by decide)))
  have K3 := K2.wr W3 (Or.inl (List.mem_of_getElem? (i := 0) rfl))
  have Z3 : n0 ≤ h3.size := Nat.le_trans Z2 (Keep.of_wr W3).1
  have N3 := Fr.snoc X3 N2 G_a1
  obtain ⟨T4, h4, X4, e4, W4, st4⟩ := putF X3 hx hZ hown (host := "") (Or.inl (hw _ (List.mem_of_getElem? (i := 13) rfl))) Via.refl e3 u3_3 u3_0 (Or.inr ⟨(hw _ (List.mem_of_getElem? (i := 14) rfl)), rfl, hnm⟩) (hw _ (List.mem_of_getElem? (i := 1) rfl)) (ty := .int) (by decide) rfl rfl (g := (mkF m 16 #[.val (.ref a1), .val (.int p2), .val (.int p3), .val (.int p4)] [(.int p4), (.ref a1)])) rfl rfl (hb hby d1_16)
  have u4_0 := u3_0.wr W4
  have u4_1 := u3_1.other W4 (Or.inr (slot_ne (Or.inr (hw _ (List.mem_of_getElem? (i := 10) rfl))) (Or.inr (hw _ (List.mem_of_getElem? (i := 14) rfl))) (by decide) (t := .int) (t' := .int) (by decide) (by decide)))
  have u4_2 := u3_2.other W4 (Or.inr (slot_ne (Or.inr (hw _ (List.mem_of_getElem? (i := 12) rfl))) (Or.inr (hw _ (List.mem_of_getElem? (i := 14) rfl))) (by decide) (t := .int) (t' := .int) (by decide) (by decide)))
  have u4_3 := u3_3.same W4
  have K4 := K3.wr W4 (Or.inl (List.mem_of_getElem? (i := 0) rfl))
  have Z4 : n0 ≤ h4.size := Nat.le_trans Z3 (Keep.of_wr W4).1
  have N4 := Fr.snoc X4 N3 G_a1
  obtain ⟨fs, hr, hrun, hended, hW, hsame⟩ := X4.leave (v := none) (fun _ => rfl)
  refine ⟨_, _, ?_, hrun, hended, _, _, rfl, ?_, ⟨_, rfl⟩, hW, hsame.mono (by decide) (by decide)⟩
  · show Steps p.tables e below (s₁.setTop (mkF m 0 #[.val (.ref a1), .val (.int p2), .val (.int p3), .val (.int p4)] [])) _
    refine XS.aloadN X0.here hx rfl (hb hby d1_0) rfl rfl ?_
    show Steps p.tables e below (s₁.setTop (mkF m 1 #[.val (.ref a1), .val (.int p2), .val (.int p3), .val (.int p4)] [(.ref a1)])) _
    refine st1 _ ?_
    show Steps p.tables e below (T1.setTop (mkF m 4 #[.val (.ref a1), .val (.int p2), .val (.int p3), .val (.int p4)] [])) _
    refine XS.aloadN X1.here hx rfl (hb hby d1_4) rfl rfl ?_
    show Steps p.tables e below (T1.setTop (mkF m 5 #[.val (.ref a1), .val (.int p2), .val (.int p3), .val (.int p4)] [(.ref a1)])) _
    refine XS.iloadN X1.here hx rfl (hb hby d1_5) rfl ?_
    show Steps p.tables e below (T1.setTop (mkF m 6 #[.val (.ref a1), .val (.int p2), .val (.int p3), .val (.int p4)] [(.int p2), (.ref a1)])) _
    refine st2 _ ?_
    show Steps p.tables e below (T2.setTop (mkF m 9 #[.val (.ref a1), .val (.int p2), .val (.int p3), .val (.int p4)] [])) _
    refine XS.aloadN X2.here hx rfl (hb hby d1_9) rfl rfl ?_
    show Steps p.tables e below (T2.setTop (mkF m 10 #[.val (.ref a1), .val (.int p2), .val (.int p3), .val (.int p4)] [(.ref a1)])) _
    refine XS.iloadN X2.here hx rfl (hb hby d1_10) rfl ?_
    show Steps p.tables e below (T2.setTop (mkF m 11 #[.val (.ref a1), .val (.int p2), .val (.int p3), .val (.int p4)] [(.int p3), (.ref a1)])) _
    refine st3 _ ?_
    show Steps p.tables e below (T3.setTop (mkF m 14 #[.val (.ref a1), .val (.int p2), .val (.int p3), .val (.int p4)] [])) _
    refine XS.aloadN X3.here hx rfl (hb hby d1_14) rfl rfl ?_
    show Steps p.tables e below (T3.setTop (mkF m 15 #[.val (.ref a1), .val (.int p2), .val (.int p3), .val (.int p4)] [(.ref a1)])) _
    refine XS.iloadN X3.here hx rfl (hb hby d1_15) rfl ?_
    show Steps p.tables e below (T3.setTop (mkF m 16 #[.val (.ref a1), .val (.int p2), .val (.int p3), .val (.int p4)] [(.int p4), (.ref a1)])) _
    refine st4 _ ?_
    show Steps p.tables e below (T4.setTop (mkF m 19 #[.val (.ref a1), .val (.int p2), .val (.int p3), .val (.int p4)] [])) _
    exact X4.returnOut hx Bd.returns (hb hby d1_19) hr
  · show Q1 Z a1 p2 p3 p4 h0 n0 _ T4.heap _
    rw [e4]
    exact ⟨rfl, N4, K4, u4_0, u4_1, u4_3, u4_2⟩
theorem d3_0 : decode prog_28_method_6_code 0 = .ok (.new 8, 3) := by decide +kernel
theorem d3_3 : decode prog_28_method_6_code 3 = .ok (.dup, 1) := by decide +kernel
theorem d3_4 : decode prog_28_method_6_code 4 = .ok (.aload_n 0, 1) := by decide +kernel
theorem d3_5 : decode prog_28_method_6_code 5 = .ok (.getfield 7, 3) := by decide +kernel
theorem d3_8 : decode prog_28_method_6_code 8 = .ok (.aload_n 1, 1) := by decide +kernel
theorem d3_9 : decode prog_28_method_6_code 9 = .ok (.getfield 7, 3) := by decide +kernel
theorem d3_12 : decode prog_28_method_6_code 12 = .ok (.iadd, 1) := by decide +kernel
theorem d3_13 : decode prog_28_method_6_code 13 = .ok (.aload_n 0, 1) := by decide +kernel
theorem d3_14 : decode prog_28_method_6_code 14 = .ok (.getfield 13, 3) := by decide +kernel
theorem d3_17 : decode prog_28_method_6_code 17 = .ok (.aload_n 1, 1) := by decide +kernel
theorem d3_18 : decode prog_28_method_6_code 18 = .ok (.getfield 13, 3) := by decide +kernel
theorem d3_21 : decode prog_28_method_6_code 21 = .ok (.iadd, 1) := by decide +kernel
theorem d3_22 : decode prog_28_method_6_code 22 = .ok (.aload_n 0, 1) := by decide +kernel
theorem d3_23 : decode prog_28_method_6_code 23 = .ok (.getfield 16, 3) := by decide +kernel
theorem d3_26 : decode prog_28_method_6_code 26 = .ok (.aload_n 1, 1) := by decide +kernel
theorem d3_27 : decode prog_28_method_6_code 27 = .ok (.getfield 16, 3) := by decide +kernel
theorem d3_30 : decode prog_28_method_6_code 30 = .ok (.iadd, 1) := by decide +kernel
theorem d3_31 : decode prog_28_method_6_code 31 = .ok (.invokespecial 19, 3) := by decide +kernel
theorem d3_34 : decode prog_28_method_6_code 34 = .ok (.areturn, 1) := by decide +kernel
theorem pn_3 : plainName "com/example/hitotabi/hitotabi/RelayTick" = true := by first | (simp [plainName, overriddenIn]; done) | decide +kernel
theorem ef_3 (m : MethodId) (a1 : Addr) (a2 : Addr) : entryFrame m #[(.ref a1), (.ref a2)] 2 = mkF m 0 #[.val (.ref a1), .val (.ref a2)] [] := by first | (simp [entryFrame, mkF, argsToLocals, Value.category]; done) | rfl
def Q3 (Z : State) (a1 : Addr) (a2 : Addr) (u1 : Int32) (u2 : Int32) (u3 : Int32) (v1 : Int32) (v2 : Int32) (v3 : Int32) (h0 : Heap) (n0 : Nat) (v : Option Value) (h : Heap) (L : List Loc) : Prop := ∃ (r : Addr), v = some (.ref r) ∧ Fr n0 L ∧ Keep h0 h [] ∧ h0.size ≤ r ∧ (Exa Z h r "com/example/hitotabi/hitotabi/RelayTick") ∧ (Fld Z h r "com/example/hitotabi/hitotabi/RelayTick" "claimed" "I" (.int (u1 + v1))) ∧ (Fld Z h r "com/example/hitotabi/hitotabi/RelayTick" "failed" "I" (.int (u3 + v3))) ∧ (Fld Z h r "com/example/hitotabi/hitotabi/RelayTick" "sent" "I" (.int (u2 + v2)))
set_option maxRecDepth 65536 in
set_option maxHeartbeats 40000000 in
theorem rm3 (l : Launch) (Z : State) (a0 : Array Value) (hw : ∀ d ∈ tables_1, d.before a0 Z = true) (ws : List Jvm.Cond) (a1 : Addr) (a2 : Addr) (u1 : Int32) (u2 : Int32) (u3 : Int32) (v1 : Int32) (v2 : Int32) (v3 : Int32) (h0 : Heap) (n0 : Nat) (Z0 : n0 ≤ h0.size) (F_a1_claimed : Fld Z h0 a1 "com/example/hitotabi/hitotabi/RelayTick" "claimed" "I" (.int u1)) (F_a1_sent : Fld Z h0 a1 "com/example/hitotabi/hitotabi/RelayTick" "sent" "I" (.int u2)) (F_a1_failed : Fld Z h0 a1 "com/example/hitotabi/hitotabi/RelayTick" "failed" "I" (.int u3)) (F_a2_claimed : Fld Z h0 a2 "com/example/hitotabi/hitotabi/RelayTick" "claimed" "I" (.int v1)) (F_a2_sent : Fld Z h0 a2 "com/example/hitotabi/hitotabi/RelayTick" "sent" "I" (.int v2)) (F_a2_failed : Fld Z h0 a2 "com/example/hitotabi/hitotabi/RelayTick" "failed" "I" (.int v3)) :
    MetFree l (⟨"com/example/hitotabi/hitotabi/RelayTick", "plus", "(Lcom/example/hitotabi/hitotabi/RelayTick;)Lcom/example/hitotabi/hitotabi/RelayTick;"⟩ : MethodName) (head1 (Jvm.Cond.code (⟨"com/example/hitotabi/hitotabi/RelayTick", "plus", "(Lcom/example/hitotabi/hitotabi/RelayTick;)Lcom/example/hitotabi/hitotabi/RelayTick;"⟩ : MethodName) prog_28_method_6_code 2 (some (.object "com/example/hitotabi/hitotabi/RelayTick")) :: ws) ({ frames := 2, cells := 1, slots := 3, locals := 28 } : Room)) (fun a U => a = #[(.ref a1), (.ref a2)] ∧ Z.Warmed39 U.vm ∧ U.heap = h0) (fun _ _ _ _ _ => True) (fun _ U o U' => ∃ v L, o = .returned v ∧ Q3 Z a1 a2 u1 u2 u3 v1 v2 v3 h0 n0 v U'.heap L ∧ FrameEnd U o U' L ({ frames := 2, cells := 1, slots := 3, locals := 28 } : Room).cells ({ frames := 2, cells := 1, slots := 3, locals := 28 } : Room).slots) := by
  refine MetFree.of_bodySF (plainFor_of_name pn_3) hisR ?_
  intro p e s m args below meth c s₁ Bd hml0 hP hK
  obtain ⟨rfl, hZ, hh⟩ := hP
  have hx := Bd.exec
  have hby := Bd.bytes
  have hml : c.maxLocals = 2 := hml0
  have hown : s.vm.findClass "com/example/hitotabi/hitotabi/RelayTick" = some m.cls := findClass_of_methodNamed Bd.named
  have hnm := (name_of_methodNamed Bd.named Bd.method).1
  have X0 : Stand p l e ({ frames := 2, cells := 1, slots := 3, locals := 28 } : Room) s m #[(.ref a1), (.ref a2)] below meth c s₁ [] 0 0 := Stand.of_body Bd
  have e0 : s₁.heap = h0 := by rw [← hh, Bd.state]; rfl
  have N0 := Fr.nil n0
  have pre0 : ∀ t, Steps p.tables e below (s₁.setTop (mkF m 0 #[.val (.ref a1), .val (.ref a2)] [])) t → Steps p.tables e below (s₁.setTop (entryFrame m #[(.ref a1), (.ref a2)] 2)) t := fun t k => castTop (ef_3 m a1 a2) k
  refine own_step (Q := fun o U' => ∃ v L, o = .returned v ∧ Q3 Z a1 a2 u1 u2 u3 v1 v2 v3 h0 n0 v U'.heap L ∧ FrameEnd s o U' L ({ frames := 2, cells := 1, slots := 3, locals := 28 } : Room).cells ({ frames := 2, cells := 1, slots := 3, locals := 28 } : Room).slots) pre0 ?_
  have K0 : Keep h0 h0 [] := Keep.refl h0 []
  obtain ⟨T1, h1, X1, e1, E1, A1, D1, -, st1⟩ := newO X0 hx hZ hown (hw _ (List.mem_of_getElem? (i := 20) rfl)) (hw _ (List.mem_of_getElem? (i := 1) rfl)) (hw _ (List.mem_of_getElem? (i := 2) rfl)) e0 (g := (mkF m 0 #[.val (.ref a1), .val (.ref a2)] [])) rfl (hb hby d3_0) (by decide) (by decide)
  obtain ⟨o1, g1⟩ : ∃ z, z = h0.size := ⟨_, rfl⟩
  rw [← g1] at A1 D1 st1
  have ne1_1 : a1 ≠ o1 := Nat.ne_of_lt (Nat.lt_of_lt_of_le F_a1_claimed.lt (Nat.le_of_eq g1.symm))
  have ne1_2 : a2 ≠ o1 := Nat.ne_of_lt (Nat.lt_of_lt_of_le F_a2_claimed.lt (Nat.le_of_eq g1.symm))
  have u1_0 := F_a1_claimed.ext E1
  have u1_1 := F_a1_sent.ext E1
  have u1_2 := F_a1_failed.ext E1
  have u1_3 := F_a2_claimed.ext E1
  have u1_4 := F_a2_sent.ext E1
  have u1_5 := F_a2_failed.ext E1
  have ge1 : n0 ≤ o1 := Nat.le_trans Z0 (Nat.le_of_eq g1.symm)
  have Z1 : n0 ≤ h1.size := Nat.le_trans Z0 E1.1
  have sz1 : h0.size ≤ o1 := Nat.le_trans K0.1 (Nat.le_of_eq g1.symm)
  have K1 := K0.ext E1
  have D1_10 : Fld Z h1 o1 "com/example/hitotabi/hitotabi/RelayTick" "claimed" "I" (.int (0 : Int32)) := D1 (Or.inr (hw _ (List.mem_of_getElem? (i := 10) rfl))) (ty := .int) (by decide)
  have D1_12 : Fld Z h1 o1 "com/example/hitotabi/hitotabi/RelayTick" "sent" "I" (.int (0 : Int32)) := D1 (Or.inr (hw _ (List.mem_of_getElem? (i := 12) rfl))) (ty := .int) (by decide)
  have D1_14 : Fld Z h1 o1 "com/example/hitotabi/hitotabi/RelayTick" "failed" "I" (.int (0 : Int32)) := D1 (Or.inr (hw _ (List.mem_of_getElem? (i := 14) rfl))) (ty := .int) (by decide)
  obtain ⟨T2, X2, e2, st2⟩ := getF X1 hx hZ hown (host := "") (Or.inl (hw _ (List.mem_of_getElem? (i := 9) rfl))) Via.refl e1 u1_0 (g := (mkF m 5 #[.val (.ref a1), .val (.ref a2)] [(.ref a1), (.ref o1), (.ref o1)])) rfl rfl (hb hby d3_5)
  obtain ⟨T3, X3, e3, st3⟩ := getF X2 hx hZ hown (host := "") (Or.inl (hw _ (List.mem_of_getElem? (i := 9) rfl))) Via.refl e2 u1_3 (g := (mkF m 9 #[.val (.ref a1), .val (.ref a2)] [(.ref a2), (.int u1), (.ref o1), (.ref o1)])) rfl rfl (hb hby d3_9)
  obtain ⟨T4, X4, e4, st4⟩ := getF X3 hx hZ hown (host := "") (Or.inl (hw _ (List.mem_of_getElem? (i := 11) rfl))) Via.refl e3 u1_1 (g := (mkF m 14 #[.val (.ref a1), .val (.ref a2)] [(.ref a1), (.int (u1 + v1)), (.ref o1), (.ref o1)])) rfl rfl (hb hby d3_14)
  obtain ⟨T5, X5, e5, st5⟩ := getF X4 hx hZ hown (host := "") (Or.inl (hw _ (List.mem_of_getElem? (i := 11) rfl))) Via.refl e4 u1_4 (g := (mkF m 18 #[.val (.ref a1), .val (.ref a2)] [(.ref a2), (.int u2), (.int (u1 + v1)), (.ref o1), (.ref o1)])) rfl rfl (hb hby d3_18)
  obtain ⟨T6, X6, e6, st6⟩ := getF X5 hx hZ hown (host := "") (Or.inl (hw _ (List.mem_of_getElem? (i := 13) rfl))) Via.refl e5 u1_2 (g := (mkF m 23 #[.val (.ref a1), .val (.ref a2)] [(.ref a1), (.int (u2 + v2)), (.int (u1 + v1)), (.ref o1), (.ref o1)])) rfl rfl (hb hby d3_23)
  obtain ⟨T7, X7, e7, st7⟩ := getF X6 hx hZ hown (host := "") (Or.inl (hw _ (List.mem_of_getElem? (i := 13) rfl))) Via.refl e6 u1_5 (g := (mkF m 27 #[.val (.ref a1), .val (.ref a2)] [(.ref a2), (.int u3), (.int (u2 + v2)), (.int (u1 + v1)), (.ref o1), (.ref o1)])) rfl rfl (hb hby d3_27)
  obtain ⟨_, _, ⟨T8, L8, k8, n8⟩, -, X8, ⟨Lc8, hQ8, l8, y8, z8⟩, st8⟩ := X7.specialBack hx (y := (⟨"com/example/hitotabi/hitotabi/RelayTick", "<init>", "(III)V"⟩ : MethodName)) rfl hown (mvT hZ (hw _ (List.mem_of_getElem? (i := 21) rfl))) (mvT hZ (hw _ (List.mem_of_getElem? (i := 4) rfl))) (mvT hZ (hw _ (List.mem_of_getElem? (i := 5) rfl))) (by decide) (backOf (W := 1) (rm1 l Z a0 hw [] o1 (u1 + v1) (u2 + v2) (u3 + v3) h1 n0 Z1 A1 ge1 D1_10 D1_12 D1_14) hZ (hw _ (List.mem_of_getElem? (i := 5) rfl)) (hw _ (List.mem_of_getElem? (i := 2) rfl)) (by decide) (by decide)) (g := (mkF m 31 #[.val (.ref a1), .val (.ref a2)] [(.int (u3 + v3)), (.int (u2 + v2)), (.int (u1 + v1)), (.ref o1), (.ref o1)])) rfl (by rw [hml]; rfl) (Steps.refl _) (a := o1) (argsL := [(.int (u1 + v1)), (.int (u2 + v2)), (.int (u3 + v3))]) (rest := [(.ref o1)]) (lenOf pd_0 rfl) rfl (by show 2 * 0 + _ ≤ _; exact Nat.le_of_eq rfl) (hb hby d3_31) (fun _ _ => ⟨rfl, e7, (by decide : 1 + 0 ≤ _), (by decide : 3 + 0 ≤ _)⟩)
  dsimp only [Pt.U, Pt.locs, Pt.cells, Pt.slots] at X8 l8 y8 z8 st8 hQ8
  subst l8 y8 z8
  obtain ⟨rfl, N8q, Kc8, c8_0, c8_1, c8_2, c8_3⟩ := hQ8
  have N8 := Fr.app N0 N8q
  have u8_0 := u1_0.keep Kc8 (by simp only [List.mem_cons, List.not_mem_nil, or_false, not_or]; exact ne1_1)
  have u8_1 := u1_1.keep Kc8 (by simp only [List.mem_cons, List.not_mem_nil, or_false, not_or]; exact ne1_1)
  have u8_2 := u1_2.keep Kc8 (by simp only [List.mem_cons, List.not_mem_nil, or_false, not_or]; exact ne1_1)
  have u8_3 := u1_3.keep Kc8 (by simp only [List.mem_cons, List.not_mem_nil, or_false, not_or]; exact ne1_2)
  have u8_4 := u1_4.keep Kc8 (by simp only [List.mem_cons, List.not_mem_nil, or_false, not_or]; exact ne1_2)
  have u8_5 := u1_5.keep Kc8 (by simp only [List.mem_cons, List.not_mem_nil, or_false, not_or]; exact ne1_2)
  have u8_6 := A1.keep Kc8
  have K8 := K1.trans Kc8 (fun x hx => by cases List.mem_singleton.mp hx; exact Or.inr sz1)
  have Z8 : n0 ≤ T8.heap.size := Nat.le_trans Z1 Kc8.1
  obtain ⟨fs, hr, hrun, hended, hW, hsame⟩ := X8.leave (v := some (.ref o1)) (fun h => by rw [Bd.returns] at h; cases h)
  refine ⟨_, _, ?_, hrun, hended, _, _, rfl, ?_, ⟨_, rfl⟩, hW, hsame.mono (by decide) (by decide)⟩
  · show Steps p.tables e below (s₁.setTop (mkF m 0 #[.val (.ref a1), .val (.ref a2)] [])) _
    refine st1 _ ?_
    show Steps p.tables e below (T1.setTop (mkF m 3 #[.val (.ref a1), .val (.ref a2)] [(.ref o1)])) _
    refine XS.dup X1.here hx rfl (hb hby d3_3) rfl rfl ?_
    show Steps p.tables e below (T1.setTop (mkF m 4 #[.val (.ref a1), .val (.ref a2)] [(.ref o1), (.ref o1)])) _
    refine XS.aloadN X1.here hx rfl (hb hby d3_4) rfl rfl ?_
    show Steps p.tables e below (T1.setTop (mkF m 5 #[.val (.ref a1), .val (.ref a2)] [(.ref a1), (.ref o1), (.ref o1)])) _
    refine st2 _ ?_
    show Steps p.tables e below (T2.setTop (mkF m 8 #[.val (.ref a1), .val (.ref a2)] [(.int u1), (.ref o1), (.ref o1)])) _
    refine XS.aloadN X2.here hx rfl (hb hby d3_8) rfl rfl ?_
    show Steps p.tables e below (T2.setTop (mkF m 9 #[.val (.ref a1), .val (.ref a2)] [(.ref a2), (.int u1), (.ref o1), (.ref o1)])) _
    refine st3 _ ?_
    show Steps p.tables e below (T3.setTop (mkF m 12 #[.val (.ref a1), .val (.ref a2)] [(.int v1), (.int u1), (.ref o1), (.ref o1)])) _
    refine XS.iadd X3.here hx rfl (hb hby d3_12) rfl ?_
    show Steps p.tables e below (T3.setTop (mkF m 13 #[.val (.ref a1), .val (.ref a2)] [(.int (u1 + v1)), (.ref o1), (.ref o1)])) _
    refine XS.aloadN X3.here hx rfl (hb hby d3_13) rfl rfl ?_
    show Steps p.tables e below (T3.setTop (mkF m 14 #[.val (.ref a1), .val (.ref a2)] [(.ref a1), (.int (u1 + v1)), (.ref o1), (.ref o1)])) _
    refine st4 _ ?_
    show Steps p.tables e below (T4.setTop (mkF m 17 #[.val (.ref a1), .val (.ref a2)] [(.int u2), (.int (u1 + v1)), (.ref o1), (.ref o1)])) _
    refine XS.aloadN X4.here hx rfl (hb hby d3_17) rfl rfl ?_
    show Steps p.tables e below (T4.setTop (mkF m 18 #[.val (.ref a1), .val (.ref a2)] [(.ref a2), (.int u2), (.int (u1 + v1)), (.ref o1), (.ref o1)])) _
    refine st5 _ ?_
    show Steps p.tables e below (T5.setTop (mkF m 21 #[.val (.ref a1), .val (.ref a2)] [(.int v2), (.int u2), (.int (u1 + v1)), (.ref o1), (.ref o1)])) _
    refine XS.iadd X5.here hx rfl (hb hby d3_21) rfl ?_
    show Steps p.tables e below (T5.setTop (mkF m 22 #[.val (.ref a1), .val (.ref a2)] [(.int (u2 + v2)), (.int (u1 + v1)), (.ref o1), (.ref o1)])) _
    refine XS.aloadN X5.here hx rfl (hb hby d3_22) rfl rfl ?_
    show Steps p.tables e below (T5.setTop (mkF m 23 #[.val (.ref a1), .val (.ref a2)] [(.ref a1), (.int (u2 + v2)), (.int (u1 + v1)), (.ref o1), (.ref o1)])) _
    refine st6 _ ?_
    show Steps p.tables e below (T6.setTop (mkF m 26 #[.val (.ref a1), .val (.ref a2)] [(.int u3), (.int (u2 + v2)), (.int (u1 + v1)), (.ref o1), (.ref o1)])) _
    refine XS.aloadN X6.here hx rfl (hb hby d3_26) rfl rfl ?_
    show Steps p.tables e below (T6.setTop (mkF m 27 #[.val (.ref a1), .val (.ref a2)] [(.ref a2), (.int u3), (.int (u2 + v2)), (.int (u1 + v1)), (.ref o1), (.ref o1)])) _
    refine st7 _ ?_
    show Steps p.tables e below (T7.setTop (mkF m 30 #[.val (.ref a1), .val (.ref a2)] [(.int v3), (.int u3), (.int (u2 + v2)), (.int (u1 + v1)), (.ref o1), (.ref o1)])) _
    refine XS.iadd X7.here hx rfl (hb hby d3_30) rfl ?_
    show Steps p.tables e below (T7.setTop (mkF m 31 #[.val (.ref a1), .val (.ref a2)] [(.int (u3 + v3)), (.int (u2 + v2)), (.int (u1 + v1)), (.ref o1), (.ref o1)])) _
    refine st8.trans ?_
    show Steps p.tables e below (T8.setTop (mkF m 34 #[.val (.ref a1), .val (.ref a2)] [(.ref o1)])) _
    jvm_step X8.here [X8.here.top, hx, (hb hby d3_34), X8.method', Bd.returns, Value.isRef, FieldType.isReference]
    first | (intro acts; rw [hr _ acts rfl rfl rfl]) | rw [hr _ _ rfl rfl rfl]
    exact Steps.refl _
  · show Q3 Z a1 a2 u1 u2 u3 v1 v2 v3 h0 n0 _ T8.heap _
    exact ⟨o1, rfl, N8, K8, sz1, c8_0, c8_1, c8_2, c8_3⟩
theorem d4_0 : decode prog_28_method_2_code 0 = .ok (.aload_n 0, 1) := by decide +kernel
theorem d4_1 : decode prog_28_method_2_code 1 = .ok (.getfield 7, 3) := by decide +kernel
theorem d4_4 : decode prog_28_method_2_code 4 = .ok (.ireturn, 1) := by decide +kernel
theorem pn_4 : plainName "com/example/hitotabi/hitotabi/RelayTick" = true := by first | (simp [plainName, overriddenIn]; done) | decide +kernel
theorem ef_4 (m : MethodId) (a1 : Addr) : entryFrame m #[(.ref a1)] 1 = mkF m 0 #[.val (.ref a1)] [] := by first | (simp [entryFrame, mkF, argsToLocals, Value.category]; done) | rfl
def Q4 (Z : State) (a1 : Addr) (u1 : Int32) (u2 : Int32) (u3 : Int32) (h0 : Heap) (n0 : Nat) (v : Option Value) (h : Heap) (L : List Loc) : Prop := v = some (.int (f4 u1 u2 u3)) ∧ Fr n0 L ∧ h = h0
set_option maxRecDepth 65536 in
set_option maxHeartbeats 40000000 in
theorem rm4 (l : Launch) (Z : State) (a0 : Array Value) (hw : ∀ d ∈ tables_1, d.before a0 Z = true) (ws : List Jvm.Cond) (a1 : Addr) (u1 : Int32) (u2 : Int32) (u3 : Int32) (h0 : Heap) (n0 : Nat) (Z0 : n0 ≤ h0.size) (F_a1_claimed : Fld Z h0 a1 "com/example/hitotabi/hitotabi/RelayTick" "claimed" "I" (.int u1)) (F_a1_sent : Fld Z h0 a1 "com/example/hitotabi/hitotabi/RelayTick" "sent" "I" (.int u2)) (F_a1_failed : Fld Z h0 a1 "com/example/hitotabi/hitotabi/RelayTick" "failed" "I" (.int u3)) :
    MetFree l (⟨"com/example/hitotabi/hitotabi/RelayTick", "claimed", "()I"⟩ : MethodName) (head1 (Jvm.Cond.code (⟨"com/example/hitotabi/hitotabi/RelayTick", "claimed", "()I"⟩ : MethodName) prog_28_method_2_code 1 (some .int) :: ws) ({ frames := 0, cells := 0, slots := 0, locals := 0 } : Room)) (fun a U => a = #[(.ref a1)] ∧ Z.Warmed39 U.vm ∧ U.heap = h0) (fun _ _ _ _ _ => True) (fun _ U o U' => ∃ v L, o = .returned v ∧ Q4 Z a1 u1 u2 u3 h0 n0 v U'.heap L ∧ FrameEnd U o U' L ({ frames := 0, cells := 0, slots := 0, locals := 0 } : Room).cells ({ frames := 0, cells := 0, slots := 0, locals := 0 } : Room).slots) := by
  refine MetFree.of_bodySF (plainFor_of_name pn_4) hisR ?_
  intro p e s m args below meth c s₁ Bd hml0 hP hK
  obtain ⟨rfl, hZ, hh⟩ := hP
  have hx := Bd.exec
  have hby := Bd.bytes
  have hml : c.maxLocals = 1 := hml0
  have hown : s.vm.findClass "com/example/hitotabi/hitotabi/RelayTick" = some m.cls := findClass_of_methodNamed Bd.named
  have hnm := (name_of_methodNamed Bd.named Bd.method).1
  have X0 : Stand p l e ({ frames := 0, cells := 0, slots := 0, locals := 0 } : Room) s m #[(.ref a1)] below meth c s₁ [] 0 0 := Stand.of_body Bd
  have e0 : s₁.heap = h0 := by rw [← hh, Bd.state]; rfl
  have N0 := Fr.nil n0
  have pre0 : ∀ t, Steps p.tables e below (s₁.setTop (mkF m 0 #[.val (.ref a1)] [])) t → Steps p.tables e below (s₁.setTop (entryFrame m #[(.ref a1)] 1)) t := fun t k => castTop (ef_4 m a1) k
  refine own_step (Q := fun o U' => ∃ v L, o = .returned v ∧ Q4 Z a1 u1 u2 u3 h0 n0 v U'.heap L ∧ FrameEnd s o U' L ({ frames := 0, cells := 0, slots := 0, locals := 0 } : Room).cells ({ frames := 0, cells := 0, slots := 0, locals := 0 } : Room).slots) pre0 ?_
  obtain ⟨T1, X1, e1, st1⟩ := getF X0 hx hZ hown (host := "") (Or.inl (hw _ (List.mem_of_getElem? (i := 9) rfl))) Via.refl e0 F_a1_claimed (g := (mkF m 1 #[.val (.ref a1)] [(.ref a1)])) rfl rfl (hb hby d4_1)
  obtain ⟨fs, hr, hrun, hended, hW, hsame⟩ := X1.leave (v := some (.int u1)) (fun h => by rw [Bd.returns] at h; cases h)
  refine ⟨_, _, ?_, hrun, hended, _, _, rfl, ?_, ⟨_, rfl⟩, hW, hsame.mono (by decide) (by decide)⟩
  · show Steps p.tables e below (s₁.setTop (mkF m 0 #[.val (.ref a1)] [])) _
    refine XS.aloadN X0.here hx rfl (hb hby d4_0) rfl rfl ?_
    show Steps p.tables e below (s₁.setTop (mkF m 1 #[.val (.ref a1)] [(.ref a1)])) _
    refine st1 _ ?_
    show Steps p.tables e below (T1.setTop (mkF m 4 #[.val (.ref a1)] [(.int u1)])) _
    exact retI X1 hx Bd.returns (hb hby d4_4) hr
  · show Q4 Z a1 u1 u2 u3 h0 n0 _ T1.heap _
    rw [e1]
    have hf : f4 u1 u2 u3 = u1 := rfl
    exact ⟨by rw [hf], N0, rfl⟩
theorem d5_0 : decode prog_28_method_3_code 0 = .ok (.aload_n 0, 1) := by decide +kernel
theorem d5_1 : decode prog_28_method_3_code 1 = .ok (.getfield 13, 3) := by decide +kernel
theorem d5_4 : decode prog_28_method_3_code 4 = .ok (.ireturn, 1) := by decide +kernel
theorem pn_5 : plainName "com/example/hitotabi/hitotabi/RelayTick" = true := by first | (simp [plainName, overriddenIn]; done) | decide +kernel
theorem ef_5 (m : MethodId) (a1 : Addr) : entryFrame m #[(.ref a1)] 1 = mkF m 0 #[.val (.ref a1)] [] := by first | (simp [entryFrame, mkF, argsToLocals, Value.category]; done) | rfl
def Q5 (Z : State) (a1 : Addr) (u1 : Int32) (u2 : Int32) (u3 : Int32) (h0 : Heap) (n0 : Nat) (v : Option Value) (h : Heap) (L : List Loc) : Prop := v = some (.int (f5 u1 u2 u3)) ∧ Fr n0 L ∧ h = h0
set_option maxRecDepth 65536 in
set_option maxHeartbeats 40000000 in
theorem rm5 (l : Launch) (Z : State) (a0 : Array Value) (hw : ∀ d ∈ tables_1, d.before a0 Z = true) (ws : List Jvm.Cond) (a1 : Addr) (u1 : Int32) (u2 : Int32) (u3 : Int32) (h0 : Heap) (n0 : Nat) (Z0 : n0 ≤ h0.size) (F_a1_claimed : Fld Z h0 a1 "com/example/hitotabi/hitotabi/RelayTick" "claimed" "I" (.int u1)) (F_a1_sent : Fld Z h0 a1 "com/example/hitotabi/hitotabi/RelayTick" "sent" "I" (.int u2)) (F_a1_failed : Fld Z h0 a1 "com/example/hitotabi/hitotabi/RelayTick" "failed" "I" (.int u3)) :
    MetFree l (⟨"com/example/hitotabi/hitotabi/RelayTick", "sent", "()I"⟩ : MethodName) (head1 (Jvm.Cond.code (⟨"com/example/hitotabi/hitotabi/RelayTick", "sent", "()I"⟩ : MethodName) prog_28_method_3_code 1 (some .int) :: ws) ({ frames := 0, cells := 0, slots := 0, locals := 0 } : Room)) (fun a U => a = #[(.ref a1)] ∧ Z.Warmed39 U.vm ∧ U.heap = h0) (fun _ _ _ _ _ => True) (fun _ U o U' => ∃ v L, o = .returned v ∧ Q5 Z a1 u1 u2 u3 h0 n0 v U'.heap L ∧ FrameEnd U o U' L ({ frames := 0, cells := 0, slots := 0, locals := 0 } : Room).cells ({ frames := 0, cells := 0, slots := 0, locals := 0 } : Room).slots) := by
  refine MetFree.of_bodySF (plainFor_of_name pn_5) hisR ?_
  intro p e s m args below meth c s₁ Bd hml0 hP hK
  obtain ⟨rfl, hZ, hh⟩ := hP
  have hx := Bd.exec
  have hby := Bd.bytes
  have hml : c.maxLocals = 1 := hml0
  have hown : s.vm.findClass "com/example/hitotabi/hitotabi/RelayTick" = some m.cls := findClass_of_methodNamed Bd.named
  have hnm := (name_of_methodNamed Bd.named Bd.method).1
  have X0 : Stand p l e ({ frames := 0, cells := 0, slots := 0, locals := 0 } : Room) s m #[(.ref a1)] below meth c s₁ [] 0 0 := Stand.of_body Bd
  have e0 : s₁.heap = h0 := by rw [← hh, Bd.state]; rfl
  have N0 := Fr.nil n0
  have pre0 : ∀ t, Steps p.tables e below (s₁.setTop (mkF m 0 #[.val (.ref a1)] [])) t → Steps p.tables e below (s₁.setTop (entryFrame m #[(.ref a1)] 1)) t := fun t k => castTop (ef_5 m a1) k
  refine own_step (Q := fun o U' => ∃ v L, o = .returned v ∧ Q5 Z a1 u1 u2 u3 h0 n0 v U'.heap L ∧ FrameEnd s o U' L ({ frames := 0, cells := 0, slots := 0, locals := 0 } : Room).cells ({ frames := 0, cells := 0, slots := 0, locals := 0 } : Room).slots) pre0 ?_
  obtain ⟨T1, X1, e1, st1⟩ := getF X0 hx hZ hown (host := "") (Or.inl (hw _ (List.mem_of_getElem? (i := 11) rfl))) Via.refl e0 F_a1_sent (g := (mkF m 1 #[.val (.ref a1)] [(.ref a1)])) rfl rfl (hb hby d5_1)
  obtain ⟨fs, hr, hrun, hended, hW, hsame⟩ := X1.leave (v := some (.int u2)) (fun h => by rw [Bd.returns] at h; cases h)
  refine ⟨_, _, ?_, hrun, hended, _, _, rfl, ?_, ⟨_, rfl⟩, hW, hsame.mono (by decide) (by decide)⟩
  · show Steps p.tables e below (s₁.setTop (mkF m 0 #[.val (.ref a1)] [])) _
    refine XS.aloadN X0.here hx rfl (hb hby d5_0) rfl rfl ?_
    show Steps p.tables e below (s₁.setTop (mkF m 1 #[.val (.ref a1)] [(.ref a1)])) _
    refine st1 _ ?_
    show Steps p.tables e below (T1.setTop (mkF m 4 #[.val (.ref a1)] [(.int u2)])) _
    exact retI X1 hx Bd.returns (hb hby d5_4) hr
  · show Q5 Z a1 u1 u2 u3 h0 n0 _ T1.heap _
    rw [e1]
    have hf : f5 u1 u2 u3 = u2 := rfl
    exact ⟨by rw [hf], N0, rfl⟩
theorem d6_0 : decode prog_28_method_4_code 0 = .ok (.aload_n 0, 1) := by decide +kernel
theorem d6_1 : decode prog_28_method_4_code 1 = .ok (.getfield 16, 3) := by decide +kernel
theorem d6_4 : decode prog_28_method_4_code 4 = .ok (.ireturn, 1) := by decide +kernel
theorem pn_6 : plainName "com/example/hitotabi/hitotabi/RelayTick" = true := by first | (simp [plainName, overriddenIn]; done) | decide +kernel
theorem ef_6 (m : MethodId) (a1 : Addr) : entryFrame m #[(.ref a1)] 1 = mkF m 0 #[.val (.ref a1)] [] := by first | (simp [entryFrame, mkF, argsToLocals, Value.category]; done) | rfl
def Q6 (Z : State) (a1 : Addr) (u1 : Int32) (u2 : Int32) (u3 : Int32) (h0 : Heap) (n0 : Nat) (v : Option Value) (h : Heap) (L : List Loc) : Prop := v = some (.int (f6 u1 u2 u3)) ∧ Fr n0 L ∧ h = h0
set_option maxRecDepth 65536 in
set_option maxHeartbeats 40000000 in
theorem rm6 (l : Launch) (Z : State) (a0 : Array Value) (hw : ∀ d ∈ tables_1, d.before a0 Z = true) (ws : List Jvm.Cond) (a1 : Addr) (u1 : Int32) (u2 : Int32) (u3 : Int32) (h0 : Heap) (n0 : Nat) (Z0 : n0 ≤ h0.size) (F_a1_claimed : Fld Z h0 a1 "com/example/hitotabi/hitotabi/RelayTick" "claimed" "I" (.int u1)) (F_a1_sent : Fld Z h0 a1 "com/example/hitotabi/hitotabi/RelayTick" "sent" "I" (.int u2)) (F_a1_failed : Fld Z h0 a1 "com/example/hitotabi/hitotabi/RelayTick" "failed" "I" (.int u3)) :
    MetFree l (⟨"com/example/hitotabi/hitotabi/RelayTick", "failed", "()I"⟩ : MethodName) (head1 (Jvm.Cond.code (⟨"com/example/hitotabi/hitotabi/RelayTick", "failed", "()I"⟩ : MethodName) prog_28_method_4_code 1 (some .int) :: ws) ({ frames := 0, cells := 0, slots := 0, locals := 0 } : Room)) (fun a U => a = #[(.ref a1)] ∧ Z.Warmed39 U.vm ∧ U.heap = h0) (fun _ _ _ _ _ => True) (fun _ U o U' => ∃ v L, o = .returned v ∧ Q6 Z a1 u1 u2 u3 h0 n0 v U'.heap L ∧ FrameEnd U o U' L ({ frames := 0, cells := 0, slots := 0, locals := 0 } : Room).cells ({ frames := 0, cells := 0, slots := 0, locals := 0 } : Room).slots) := by
  refine MetFree.of_bodySF (plainFor_of_name pn_6) hisR ?_
  intro p e s m args below meth c s₁ Bd hml0 hP hK
  obtain ⟨rfl, hZ, hh⟩ := hP
  have hx := Bd.exec
  have hby := Bd.bytes
  have hml : c.maxLocals = 1 := hml0
  have hown : s.vm.findClass "com/example/hitotabi/hitotabi/RelayTick" = some m.cls := findClass_of_methodNamed Bd.named
  have hnm := (name_of_methodNamed Bd.named Bd.method).1
  have X0 : Stand p l e ({ frames := 0, cells := 0, slots := 0, locals := 0 } : Room) s m #[(.ref a1)] below meth c s₁ [] 0 0 := Stand.of_body Bd
  have e0 : s₁.heap = h0 := by rw [← hh, Bd.state]; rfl
  have N0 := Fr.nil n0
  have pre0 : ∀ t, Steps p.tables e below (s₁.setTop (mkF m 0 #[.val (.ref a1)] [])) t → Steps p.tables e below (s₁.setTop (entryFrame m #[(.ref a1)] 1)) t := fun t k => castTop (ef_6 m a1) k
  refine own_step (Q := fun o U' => ∃ v L, o = .returned v ∧ Q6 Z a1 u1 u2 u3 h0 n0 v U'.heap L ∧ FrameEnd s o U' L ({ frames := 0, cells := 0, slots := 0, locals := 0 } : Room).cells ({ frames := 0, cells := 0, slots := 0, locals := 0 } : Room).slots) pre0 ?_
  obtain ⟨T1, X1, e1, st1⟩ := getF X0 hx hZ hown (host := "") (Or.inl (hw _ (List.mem_of_getElem? (i := 13) rfl))) Via.refl e0 F_a1_failed (g := (mkF m 1 #[.val (.ref a1)] [(.ref a1)])) rfl rfl (hb hby d6_1)
  obtain ⟨fs, hr, hrun, hended, hW, hsame⟩ := X1.leave (v := some (.int u3)) (fun h => by rw [Bd.returns] at h; cases h)
  refine ⟨_, _, ?_, hrun, hended, _, _, rfl, ?_, ⟨_, rfl⟩, hW, hsame.mono (by decide) (by decide)⟩
  · show Steps p.tables e below (s₁.setTop (mkF m 0 #[.val (.ref a1)] [])) _
    refine XS.aloadN X0.here hx rfl (hb hby d6_0) rfl rfl ?_
    show Steps p.tables e below (s₁.setTop (mkF m 1 #[.val (.ref a1)] [(.ref a1)])) _
    refine st1 _ ?_
    show Steps p.tables e below (T1.setTop (mkF m 4 #[.val (.ref a1)] [(.int u3)])) _
    exact retI X1 hx Bd.returns (hb hby d6_4) hr
  · show Q6 Z a1 u1 u2 u3 h0 n0 _ T1.heap _
    rw [e1]
    have hf : f6 u1 u2 u3 = u3 := rfl
    exact ⟨by rw [hf], N0, rfl⟩
theorem d7_0 : decode prog_28_method_5_code 0 = .ok (.aload_n 0, 1) := by decide +kernel
theorem d7_1 : decode prog_28_method_5_code 1 = .ok (.getfield 7, 3) := by decide +kernel
theorem d7_4 : decode prog_28_method_5_code 4 = .ok (.aload_n 0, 1) := by decide +kernel
theorem d7_5 : decode prog_28_method_5_code 5 = .ok (.getfield 13, 3) := by decide +kernel
theorem d7_8 : decode prog_28_method_5_code 8 = .ok (.isub, 1) := by decide +kernel
theorem d7_9 : decode prog_28_method_5_code 9 = .ok (.aload_n 0, 1) := by decide +kernel
theorem d7_10 : decode prog_28_method_5_code 10 = .ok (.getfield 16, 3) := by decide +kernel
theorem d7_13 : decode prog_28_method_5_code 13 = .ok (.isub, 1) := by decide +kernel
theorem d7_14 : decode prog_28_method_5_code 14 = .ok (.ireturn, 1) := by decide +kernel
theorem pn_7 : plainName "com/example/hitotabi/hitotabi/RelayTick" = true := by first | (simp [plainName, overriddenIn]; done) | decide +kernel
theorem ef_7 (m : MethodId) (a1 : Addr) : entryFrame m #[(.ref a1)] 1 = mkF m 0 #[.val (.ref a1)] [] := by first | (simp [entryFrame, mkF, argsToLocals, Value.category]; done) | rfl
def Q7 (Z : State) (a1 : Addr) (u1 : Int32) (u2 : Int32) (u3 : Int32) (h0 : Heap) (n0 : Nat) (v : Option Value) (h : Heap) (L : List Loc) : Prop := v = some (.int (f7 u1 u2 u3)) ∧ Fr n0 L ∧ h = h0
set_option maxRecDepth 65536 in
set_option maxHeartbeats 40000000 in
theorem rm7 (l : Launch) (Z : State) (a0 : Array Value) (hw : ∀ d ∈ tables_1, d.before a0 Z = true) (ws : List Jvm.Cond) (a1 : Addr) (u1 : Int32) (u2 : Int32) (u3 : Int32) (h0 : Heap) (n0 : Nat) (Z0 : n0 ≤ h0.size) (F_a1_claimed : Fld Z h0 a1 "com/example/hitotabi/hitotabi/RelayTick" "claimed" "I" (.int u1)) (F_a1_sent : Fld Z h0 a1 "com/example/hitotabi/hitotabi/RelayTick" "sent" "I" (.int u2)) (F_a1_failed : Fld Z h0 a1 "com/example/hitotabi/hitotabi/RelayTick" "failed" "I" (.int u3)) :
    MetFree l (⟨"com/example/hitotabi/hitotabi/RelayTick", "lost", "()I"⟩ : MethodName) (head1 (Jvm.Cond.code (⟨"com/example/hitotabi/hitotabi/RelayTick", "lost", "()I"⟩ : MethodName) prog_28_method_5_code 1 (some .int) :: ws) ({ frames := 0, cells := 0, slots := 0, locals := 0 } : Room)) (fun a U => a = #[(.ref a1)] ∧ Z.Warmed39 U.vm ∧ U.heap = h0) (fun _ _ _ _ _ => True) (fun _ U o U' => ∃ v L, o = .returned v ∧ Q7 Z a1 u1 u2 u3 h0 n0 v U'.heap L ∧ FrameEnd U o U' L ({ frames := 0, cells := 0, slots := 0, locals := 0 } : Room).cells ({ frames := 0, cells := 0, slots := 0, locals := 0 } : Room).slots) := by
  refine MetFree.of_bodySF (plainFor_of_name pn_7) hisR ?_
  intro p e s m args below meth c s₁ Bd hml0 hP hK
  obtain ⟨rfl, hZ, hh⟩ := hP
  have hx := Bd.exec
  have hby := Bd.bytes
  have hml : c.maxLocals = 1 := hml0
  have hown : s.vm.findClass "com/example/hitotabi/hitotabi/RelayTick" = some m.cls := findClass_of_methodNamed Bd.named
  have hnm := (name_of_methodNamed Bd.named Bd.method).1
  have X0 : Stand p l e ({ frames := 0, cells := 0, slots := 0, locals := 0 } : Room) s m #[(.ref a1)] below meth c s₁ [] 0 0 := Stand.of_body Bd
  have e0 : s₁.heap = h0 := by rw [← hh, Bd.state]; rfl
  have N0 := Fr.nil n0
  have pre0 : ∀ t, Steps p.tables e below (s₁.setTop (mkF m 0 #[.val (.ref a1)] [])) t → Steps p.tables e below (s₁.setTop (entryFrame m #[(.ref a1)] 1)) t := fun t k => castTop (ef_7 m a1) k
  refine own_step (Q := fun o U' => ∃ v L, o = .returned v ∧ Q7 Z a1 u1 u2 u3 h0 n0 v U'.heap L ∧ FrameEnd s o U' L ({ frames := 0, cells := 0, slots := 0, locals := 0 } : Room).cells ({ frames := 0, cells := 0, slots := 0, locals := 0 } : Room).slots) pre0 ?_
  obtain ⟨T1, X1, e1, st1⟩ := getF X0 hx hZ hown (host := "") (Or.inl (hw _ (List.mem_of_getElem? (i := 9) rfl))) Via.refl e0 F_a1_claimed (g := (mkF m 1 #[.val (.ref a1)] [(.ref a1)])) rfl rfl (hb hby d7_1)
  obtain ⟨T2, X2, e2, st2⟩ := getF X1 hx hZ hown (host := "") (Or.inl (hw _ (List.mem_of_getElem? (i := 11) rfl))) Via.refl e1 F_a1_sent (g := (mkF m 5 #[.val (.ref a1)] [(.ref a1), (.int u1)])) rfl rfl (hb hby d7_5)
  obtain ⟨T3, X3, e3, st3⟩ := getF X2 hx hZ hown (host := "") (Or.inl (hw _ (List.mem_of_getElem? (i := 13) rfl))) Via.refl e2 F_a1_failed (g := (mkF m 10 #[.val (.ref a1)] [(.ref a1), (.int (u1 - u2))])) rfl rfl (hb hby d7_10)
  obtain ⟨fs, hr, hrun, hended, hW, hsame⟩ := X3.leave (v := some (.int ((u1 - u2) - u3))) (fun h => by rw [Bd.returns] at h; cases h)
  refine ⟨_, _, ?_, hrun, hended, _, _, rfl, ?_, ⟨_, rfl⟩, hW, hsame.mono (by decide) (by decide)⟩
  · show Steps p.tables e below (s₁.setTop (mkF m 0 #[.val (.ref a1)] [])) _
    refine XS.aloadN X0.here hx rfl (hb hby d7_0) rfl rfl ?_
    show Steps p.tables e below (s₁.setTop (mkF m 1 #[.val (.ref a1)] [(.ref a1)])) _
    refine st1 _ ?_
    show Steps p.tables e below (T1.setTop (mkF m 4 #[.val (.ref a1)] [(.int u1)])) _
    refine XS.aloadN X1.here hx rfl (hb hby d7_4) rfl rfl ?_
    show Steps p.tables e below (T1.setTop (mkF m 5 #[.val (.ref a1)] [(.ref a1), (.int u1)])) _
    refine st2 _ ?_
    show Steps p.tables e below (T2.setTop (mkF m 8 #[.val (.ref a1)] [(.int u2), (.int u1)])) _
    refine XS.isub X2.here hx rfl (hb hby d7_8) rfl ?_
    show Steps p.tables e below (T2.setTop (mkF m 9 #[.val (.ref a1)] [(.int (u1 - u2))])) _
    refine XS.aloadN X2.here hx rfl (hb hby d7_9) rfl rfl ?_
    show Steps p.tables e below (T2.setTop (mkF m 10 #[.val (.ref a1)] [(.ref a1), (.int (u1 - u2))])) _
    refine st3 _ ?_
    show Steps p.tables e below (T3.setTop (mkF m 13 #[.val (.ref a1)] [(.int u3), (.int (u1 - u2))])) _
    refine XS.isub X3.here hx rfl (hb hby d7_13) rfl ?_
    show Steps p.tables e below (T3.setTop (mkF m 14 #[.val (.ref a1)] [(.int ((u1 - u2) - u3))])) _
    exact retI X3 hx Bd.returns (hb hby d7_14) hr
  · show Q7 Z a1 u1 u2 u3 h0 n0 _ T3.heap _
    rw [e3]
    have hf : f7 u1 u2 u3 = ((u1 - u2) - u3) := rfl
    exact ⟨by rw [hf], N0, rfl⟩
theorem pn_0 : plainName "com/example/hitotabi/hitotabi/RelayTickPlusPinLaw" = true := by first | (simp [plainName, overriddenIn]; done) | decide +kernel
theorem ef_0 (m : MethodId) (p1 : Int32) (p2 : Int32) (p3 : Int32) (p4 : Int32) (p5 : Int32) (p6 : Int32) : entryFrame m #[(.int p1), (.int p2), (.int p3), (.int p4), (.int p5), (.int p6)] maxLocals = mkF m 0 #[.val (.int p1), .val (.int p2), .val (.int p3), .val (.int p4), .val (.int p5), .val (.int p6), .unset, .unset, .unset, .unset, .unset] [] := by first | (simp [entryFrame, mkF, argsToLocals, Value.category, maxLocals]; done) | rfl
def Q0 (Z : State) (p1 : Int32) (p2 : Int32) (p3 : Int32) (p4 : Int32) (p5 : Int32) (p6 : Int32) (h0 : Heap) (n0 : Nat) (v : Option Value) (h : Heap) (L : List Loc) : Prop := v = some (.int (1 : Int32)) ∧ Fr n0 L
set_option maxRecDepth 65536 in
set_option maxHeartbeats 40000000 in
theorem rm0 (l : Launch) (Z : State) (a0 : Array Value) (hw : ∀ d ∈ tables_1, d.before a0 Z = true) (ws : List Jvm.Cond) (p1 : Int32) (p2 : Int32) (p3 : Int32) (p4 : Int32) (p5 : Int32) (p6 : Int32) (h0 : Heap) (n0 : Nat) (Z0 : n0 ≤ h0.size) :
    MetFree l x (head1 (Jvm.Cond.code x code maxLocals ret :: ws) room_1) (fun a U => a = #[(.int p1), (.int p2), (.int p3), (.int p4), (.int p5), (.int p6)] ∧ Z.Warmed39 U.vm ∧ U.heap = h0) (fun _ _ _ _ _ => True) (fun _ U o U' => ∃ v L, o = .returned v ∧ Q0 Z p1 p2 p3 p4 p5 p6 h0 n0 v U'.heap L ∧ FrameEnd U o U' L room_1.cells room_1.slots) := by
  refine MetFree.of_bodySF (plainFor_of_name pn_0) hisR ?_
  intro p e s m args below meth c s₁ Bd hml0 hP hK
  obtain ⟨rfl, hZ, hh⟩ := hP
  have hx := Bd.exec
  have hby := Bd.bytes
  have hml : c.maxLocals = 11 := hml0
  have hown : s.vm.findClass "com/example/hitotabi/hitotabi/RelayTickPlusPinLaw" = some m.cls := findClass_of_methodNamed Bd.named
  have hnm := (name_of_methodNamed Bd.named Bd.method).1
  have X0 : Stand p l e room_1 s m #[(.int p1), (.int p2), (.int p3), (.int p4), (.int p5), (.int p6)] below meth c s₁ [] 0 0 := Stand.of_body Bd
  have e0 : s₁.heap = h0 := by rw [← hh, Bd.state]; rfl
  have N0 := Fr.nil n0
  have pre0 : ∀ t, Steps p.tables e below (s₁.setTop (mkF m 0 #[.val (.int p1), .val (.int p2), .val (.int p3), .val (.int p4), .val (.int p5), .val (.int p6), .unset, .unset, .unset, .unset, .unset] [])) t → Steps p.tables e below (s₁.setTop (entryFrame m #[(.int p1), (.int p2), (.int p3), (.int p4), (.int p5), (.int p6)] maxLocals)) t := fun t k => castTop (ef_0 m p1 p2 p3 p4 p5 p6) k
  refine own_step (Q := fun o U' => ∃ v L, o = .returned v ∧ Q0 Z p1 p2 p3 p4 p5 p6 h0 n0 v U'.heap L ∧ FrameEnd s o U' L room_1.cells room_1.slots) pre0 ?_
  have K0 : Keep h0 h0 [] := Keep.refl h0 []
  obtain ⟨T1, h1, X1, e1, E1, A1, D1, -, st1⟩ := newO X0 hx hZ hown (hw _ (List.mem_of_getElem? (i := 0) rfl)) (hw _ (List.mem_of_getElem? (i := 1) rfl)) (hw _ (List.mem_of_getElem? (i := 2) rfl)) e0 (g := (mkF m 0 #[.val (.int p1), .val (.int p2), .val (.int p3), .val (.int p4), .val (.int p5), .val (.int p6), .unset, .unset, .unset, .unset, .unset] [])) rfl (hb hby at_0) (by decide) (by decide)
  obtain ⟨o1, g1⟩ : ∃ z, z = h0.size := ⟨_, rfl⟩
  rw [← g1] at A1 D1 st1
  have ge1 : n0 ≤ o1 := Nat.le_trans Z0 (Nat.le_of_eq g1.symm)
  have Z1 : n0 ≤ h1.size := Nat.le_trans Z0 E1.1
  have sz1 : h0.size ≤ o1 := Nat.le_trans K0.1 (Nat.le_of_eq g1.symm)
  have K1 := K0.ext E1
  have D1_10 : Fld Z h1 o1 "com/example/hitotabi/hitotabi/RelayTick" "claimed" "I" (.int (0 : Int32)) := D1 (Or.inr (hw _ (List.mem_of_getElem? (i := 10) rfl))) (ty := .int) (by decide)
  have D1_12 : Fld Z h1 o1 "com/example/hitotabi/hitotabi/RelayTick" "sent" "I" (.int (0 : Int32)) := D1 (Or.inr (hw _ (List.mem_of_getElem? (i := 12) rfl))) (ty := .int) (by decide)
  have D1_14 : Fld Z h1 o1 "com/example/hitotabi/hitotabi/RelayTick" "failed" "I" (.int (0 : Int32)) := D1 (Or.inr (hw _ (List.mem_of_getElem? (i := 14) rfl))) (ty := .int) (by decide)
  obtain ⟨_, _, ⟨T2, L2, k2, n2⟩, -, X2, ⟨Lc2, hQ2, l2, y2, z2⟩, st2⟩ := X1.specialBack hx (y := (⟨"com/example/hitotabi/hitotabi/RelayTick", "<init>", "(III)V"⟩ : MethodName)) rfl hown (mvT hZ (hw _ (List.mem_of_getElem? (i := 3) rfl))) (mvT hZ (hw _ (List.mem_of_getElem? (i := 4) rfl))) (mvT hZ (hw _ (List.mem_of_getElem? (i := 5) rfl))) (by decide) (backOf (W := 1) (rm1 l Z a0 hw [] o1 p1 p2 p3 h1 n0 Z1 A1 ge1 D1_10 D1_12 D1_14) hZ (hw _ (List.mem_of_getElem? (i := 5) rfl)) (hw _ (List.mem_of_getElem? (i := 2) rfl)) (by decide) (by decide)) (g := (mkF m 7 #[.val (.int p1), .val (.int p2), .val (.int p3), .val (.int p4), .val (.int p5), .val (.int p6), .unset, .unset, .unset, .unset, .unset] [(.int p3), (.int p2), (.int p1), (.ref o1), (.ref o1)])) rfl (by rw [hml]; rfl) (Steps.refl _) (a := o1) (argsL := [(.int p1), (.int p2), (.int p3)]) (rest := [(.ref o1)]) (lenOf pd_0 rfl) rfl (by show 2 * 0 + _ ≤ _; exact Nat.le_of_eq rfl) (hb hby at_7) (fun _ _ => ⟨rfl, e1, (by decide : 1 + 0 ≤ _), (by decide : 3 + 0 ≤ _)⟩)
  dsimp only [Pt.U, Pt.locs, Pt.cells, Pt.slots] at X2 l2 y2 z2 st2 hQ2
  subst l2 y2 z2
  obtain ⟨rfl, N2q, Kc2, c2_0, c2_1, c2_2, c2_3⟩ := hQ2
  have N2 := Fr.app N0 N2q
  have u2_0 := A1.keep Kc2
  have K2 := K1.trans Kc2 (fun x hx => by cases List.mem_singleton.mp hx; exact Or.inr sz1)
  have Z2 : n0 ≤ T2.heap.size := Nat.le_trans Z1 Kc2.1
  obtain ⟨T3, h3, X3, e3, E3, A3, D3, -, st3⟩ := newO X2 hx hZ hown (hw _ (List.mem_of_getElem? (i := 0) rfl)) (hw _ (List.mem_of_getElem? (i := 1) rfl)) (hw _ (List.mem_of_getElem? (i := 2) rfl)) rfl (g := (mkF m 12 #[.val (.int p1), .val (.int p2), .val (.int p3), .val (.int p4), .val (.int p5), .val (.int p6), .val (.ref o1), .unset, .unset, .unset, .unset] [])) rfl (hb hby at_12) (by decide) (by decide)
  obtain ⟨o3, g3⟩ : ∃ z, z = T2.heap.size := ⟨_, rfl⟩
  rw [← g3] at A3 D3 st3
  have ne3_1 : o1 ≠ o3 := Nat.ne_of_lt (Nat.lt_of_lt_of_le c2_0.lt (Nat.le_of_eq g3.symm))
  have u3_0 := c2_0.ext E3
  have u3_1 := c2_1.ext E3
  have u3_2 := c2_2.ext E3
  have u3_3 := c2_3.ext E3
  have ge3 : n0 ≤ o3 := Nat.le_trans Z2 (Nat.le_of_eq g3.symm)
  have Z3 : n0 ≤ h3.size := Nat.le_trans Z2 E3.1
  have sz3 : h0.size ≤ o3 := Nat.le_trans K2.1 (Nat.le_of_eq g3.symm)
  have K3 := K2.ext E3
  have D3_10 : Fld Z h3 o3 "com/example/hitotabi/hitotabi/RelayTick" "claimed" "I" (.int (0 : Int32)) := D3 (Or.inr (hw _ (List.mem_of_getElem? (i := 10) rfl))) (ty := .int) (by decide)
  have D3_12 : Fld Z h3 o3 "com/example/hitotabi/hitotabi/RelayTick" "sent" "I" (.int (0 : Int32)) := D3 (Or.inr (hw _ (List.mem_of_getElem? (i := 12) rfl))) (ty := .int) (by decide)
  have D3_14 : Fld Z h3 o3 "com/example/hitotabi/hitotabi/RelayTick" "failed" "I" (.int (0 : Int32)) := D3 (Or.inr (hw _ (List.mem_of_getElem? (i := 14) rfl))) (ty := .int) (by decide)
  obtain ⟨_, _, ⟨T4, L4, k4, n4⟩, -, X4, ⟨Lc4, hQ4, l4, y4, z4⟩, st4⟩ := X3.specialBack hx (y := (⟨"com/example/hitotabi/hitotabi/RelayTick", "<init>", "(III)V"⟩ : MethodName)) rfl hown (mvT hZ (hw _ (List.mem_of_getElem? (i := 3) rfl))) (mvT hZ (hw _ (List.mem_of_getElem? (i := 4) rfl))) (mvT hZ (hw _ (List.mem_of_getElem? (i := 5) rfl))) (by decide) (backOf (W := 1) (rm1 l Z a0 hw [] o3 p4 p5 p6 h3 n0 Z3 A3 ge3 D3_10 D3_12 D3_14) hZ (hw _ (List.mem_of_getElem? (i := 5) rfl)) (hw _ (List.mem_of_getElem? (i := 2) rfl)) (by decide) (by decide)) (g := (mkF m 21 #[.val (.int p1), .val (.int p2), .val (.int p3), .val (.int p4), .val (.int p5), .val (.int p6), .val (.ref o1), .unset, .unset, .unset, .unset] [(.int p6), (.int p5), (.int p4), (.ref o3), (.ref o3)])) rfl (by rw [hml]; rfl) (Steps.refl _) (a := o3) (argsL := [(.int p4), (.int p5), (.int p6)]) (rest := [(.ref o3)]) (lenOf pd_0 rfl) rfl (by show 2 * 0 + _ ≤ _; exact Nat.le_of_eq rfl) (hb hby at_21) (fun _ _ => ⟨rfl, e3, (by decide : 2 + 0 ≤ _), (by decide : 6 + 0 ≤ _)⟩)
  dsimp only [Pt.U, Pt.locs, Pt.cells, Pt.slots] at X4 l4 y4 z4 st4 hQ4
  subst l4 y4 z4
  obtain ⟨rfl, N4q, Kc4, c4_0, c4_1, c4_2, c4_3⟩ := hQ4
  have N4 := Fr.app N2 N4q
  have u4_0 := u3_0.keep Kc4
  have u4_1 := u3_1.keep Kc4 (by simp only [List.mem_cons, List.not_mem_nil, or_false, not_or]; exact ne3_1)
  have u4_2 := u3_2.keep Kc4 (by simp only [List.mem_cons, List.not_mem_nil, or_false, not_or]; exact ne3_1)
  have u4_3 := u3_3.keep Kc4 (by simp only [List.mem_cons, List.not_mem_nil, or_false, not_or]; exact ne3_1)
  have u4_4 := A3.keep Kc4
  have K4 := K3.trans Kc4 (fun x hx => by cases List.mem_singleton.mp hx; exact Or.inr sz3)
  have Z4 : n0 ≤ T4.heap.size := Nat.le_trans Z3 Kc4.1
  obtain ⟨cq5, kq5, q5a, q5b, q5c⟩ := isOf hZ rfl u4_0
  obtain ⟨_, _, ⟨T5, L5, k5, n5⟩, -, X5, ⟨Lc5, hQ5, l5, y5, z5⟩, st5⟩ := X4.virtualBack hx (y := (⟨"com/example/hitotabi/hitotabi/RelayTick", "plus", "(Lcom/example/hitotabi/hitotabi/RelayTick;)Lcom/example/hitotabi/hitotabi/RelayTick;"⟩ : MethodName)) (z := (⟨"com/example/hitotabi/hitotabi/RelayTick", "plus", "(Lcom/example/hitotabi/hitotabi/RelayTick;)Lcom/example/hitotabi/hitotabi/RelayTick;"⟩ : MethodName)) hown (mvT hZ (hw _ (List.mem_of_getElem? (i := 15) rfl))) (mvT hZ (hw _ (List.mem_of_getElem? (i := 16) rfl))) (notFace_of_selects (args := #[]) (mvT hZ (hw _ (List.mem_of_getElem? (i := 18) rfl)))) (mvT hZ (hw _ (List.mem_of_getElem? (i := 18) rfl))) (mvT hZ (hw _ (List.mem_of_getElem? (i := 17) rfl))) (by decide) (backOf (W := 0) (rm3 l Z a0 hw [] o1 o3 p1 p2 p3 p4 p5 p6 T4.heap n0 Z4 u4_1 u4_3 u4_2 c4_1 c4_3 c4_2) hZ (hw _ (List.mem_of_getElem? (i := 19) rfl)) (hw _ (List.mem_of_getElem? (i := 2) rfl)) (by decide) (by decide)) q5a q5c (g := (mkF m 30 #[.val (.int p1), .val (.int p2), .val (.int p3), .val (.int p4), .val (.int p5), .val (.int p6), .val (.ref o1), .val (.ref o3), .unset, .unset, .unset] [(.ref o3), (.ref o1)])) rfl (by rw [hml]; rfl) (Steps.refl _) (argsL := [(.ref o3)]) (rest := []) (lenOf pd_1 rfl) rfl (by show 2 * 0 + _ ≤ _; exact Nat.le_of_eq rfl) (hb hby at_30) (fun _ _ => ⟨rfl, rfl, (by decide : 2 + 1 ≤ _), (by decide : 6 + 3 ≤ _)⟩)
  dsimp only [Pt.U, Pt.locs, Pt.cells, Pt.slots] at X5 l5 y5 z5 st5 hQ5
  subst l5 y5 z5
  obtain ⟨r5, rfl, N5q, Kc5, fr5_r, c5_0, c5_1, c5_2, c5_3⟩ := hQ5
  have N5 := Fr.app N4 N5q
  have ne5_r_1 : o1 ≠ r5 := Nat.ne_of_lt (Nat.lt_of_lt_of_le u4_0.lt fr5_r)
  have ne5_r_2 : o3 ≠ r5 := Nat.ne_of_lt (Nat.lt_of_lt_of_le c4_0.lt fr5_r)
  have ge5_r : n0 ≤ r5 := Nat.le_trans Z4 fr5_r
  have sz5_r : h0.size ≤ r5 := Nat.le_trans K4.1 fr5_r
  have u5_0 := u4_0.keep Kc5
  have u5_1 := u4_1.keep Kc5 (List.not_mem_nil)
  have u5_2 := u4_2.keep Kc5 (List.not_mem_nil)
  have u5_3 := u4_3.keep Kc5 (List.not_mem_nil)
  have u5_4 := c4_0.keep Kc5
  have u5_5 := c4_1.keep Kc5 (List.not_mem_nil)
  have u5_6 := c4_2.keep Kc5 (List.not_mem_nil)
  have u5_7 := c4_3.keep Kc5 (List.not_mem_nil)
  have K5 := K4.trans Kc5 (fun x hx => absurd hx List.not_mem_nil)
  have Z5 : n0 ≤ T5.heap.size := Nat.le_trans Z4 Kc5.1
  obtain ⟨cq6, kq6, q6a, q6b, q6c⟩ := isOf hZ rfl c5_0
  obtain ⟨_, _, ⟨T6, L6, k6, n6⟩, -, X6, ⟨Lc6, hQ6, l6, y6, z6⟩, st6⟩ := X5.virtualBack hx (y := (⟨"com/example/hitotabi/hitotabi/RelayTick", "claimed", "()I"⟩ : MethodName)) (z := (⟨"com/example/hitotabi/hitotabi/RelayTick", "claimed", "()I"⟩ : MethodName)) hown (mvT hZ (hw _ (List.mem_of_getElem? (i := 22) rfl))) (mvT hZ (hw _ (List.mem_of_getElem? (i := 23) rfl))) (notFace_of_selects (args := #[]) (mvT hZ (hw _ (List.mem_of_getElem? (i := 25) rfl)))) (mvT hZ (hw _ (List.mem_of_getElem? (i := 25) rfl))) (mvT hZ (hw _ (List.mem_of_getElem? (i := 24) rfl))) (by decide) (backOf (W := 0) (rm4 l Z a0 hw [] r5 (p1 + p4) (p2 + p5) (p3 + p6) T5.heap n0 Z5 c5_1 c5_3 c5_2) hZ (hw _ (List.mem_of_getElem? (i := 26) rfl)) (hw _ (List.mem_of_getElem? (i := 2) rfl)) (by decide) (by decide)) q6a q6c (g := (mkF m 37 #[.val (.int p1), .val (.int p2), .val (.int p3), .val (.int p4), .val (.int p5), .val (.int p6), .val (.ref o1), .val (.ref o3), .val (.ref r5), .unset, .unset] [(.ref r5)])) rfl (by rw [hml]; rfl) (Steps.refl _) (argsL := []) (rest := []) (lenOf pd_2 rfl) rfl (by show 2 * 0 + _ ≤ _; exact Nat.le_of_eq rfl) (hb hby at_37) (fun _ _ => ⟨rfl, rfl, (by decide : 3 + 0 ≤ _), (by decide : 9 + 0 ≤ _)⟩)
  dsimp only [Pt.U, Pt.locs, Pt.cells, Pt.slots] at X6 l6 y6 z6 st6 hQ6
  subst l6 y6 z6
  obtain ⟨rfl, N6q, e6⟩ := hQ6
  have N6 := Fr.app N5 N6q
  obtain ⟨T14, lo14, X14, e14, N14, st14⟩ : ∃ (T' : State) (lo : List Loc) (_ : Stand p l e room_1 s m #[(.int p1), (.int p2), (.int p3), (.int p4), (.int p5), (.int p6)] below meth c T' lo 3 9), T'.heap = T5.heap ∧ Fr n0 lo ∧ ∀ t, Steps p.tables e below (T'.setTop (mkF m 75 #[.val (.int p1), .val (.int p2), .val (.int p3), .val (.int p4), .val (.int p5), .val (.int p6), .val (.ref o1), .val (.ref o3), .val (.ref r5), .unset, .unset] [(.int (f0_2 p1 p2 p3 p4 p5 p6))])) t → Steps p.tables e below (T6.setTop (mkF m 43 #[.val (.int p1), .val (.int p2), .val (.int p3), .val (.int p4), .val (.int p5), .val (.int p6), .val (.ref o1), .val (.ref o3), .val (.ref r5), .unset, .unset] [(.int (p1 + p4)), (.int (f4 (p1 + p4) (p2 + p5) (p3 + p6)))])) t := by
    by_cases h7 : (f4 (p1 + p4) (p2 + p5) (p3 + p6)) = (p1 + p4)
    · obtain ⟨cq8, kq8, q8a, q8b, q8c⟩ := isOf hZ e6 c5_0
      obtain ⟨_, _, ⟨T8, L8, k8, n8⟩, -, X8, ⟨Lc8, hQ8, l8, y8, z8⟩, st8⟩ := X6.virtualBack hx (y := (⟨"com/example/hitotabi/hitotabi/RelayTick", "sent", "()I"⟩ : MethodName)) (z := (⟨"com/example/hitotabi/hitotabi/RelayTick", "sent", "()I"⟩ : MethodName)) hown (mvT hZ (hw _ (List.mem_of_getElem? (i := 27) rfl))) (mvT hZ (hw _ (List.mem_of_getElem? (i := 28) rfl))) (notFace_of_selects (args := #[]) (mvT hZ (hw _ (List.mem_of_getElem? (i := 30) rfl)))) (mvT hZ (hw _ (List.mem_of_getElem? (i := 30) rfl))) (mvT hZ (hw _ (List.mem_of_getElem? (i := 29) rfl))) (by decide) (backOf (W := 0) (rm5 l Z a0 hw [] r5 (p1 + p4) (p2 + p5) (p3 + p6) T5.heap n0 Z5 c5_1 c5_3 c5_2) hZ (hw _ (List.mem_of_getElem? (i := 31) rfl)) (hw _ (List.mem_of_getElem? (i := 2) rfl)) (by decide) (by decide)) q8a q8c (g := (mkF m 48 #[.val (.int p1), .val (.int p2), .val (.int p3), .val (.int p4), .val (.int p5), .val (.int p6), .val (.ref o1), .val (.ref o3), .val (.ref r5), .unset, .unset] [(.ref r5)])) rfl (by rw [hml]; rfl) (Steps.refl _) (argsL := []) (rest := []) (lenOf pd_2 rfl) rfl (by show 2 * 0 + _ ≤ _; exact Nat.le_of_eq rfl) (hb hby at_48) (fun _ _ => ⟨rfl, e6, (by decide : 3 + 0 ≤ _), (by decide : 9 + 0 ≤ _)⟩)
      dsimp only [Pt.U, Pt.locs, Pt.cells, Pt.slots] at X8 l8 y8 z8 st8 hQ8
      subst l8 y8 z8
      obtain ⟨rfl, N8q, e8⟩ := hQ8
      have N8 := Fr.app N6 N8q
      obtain ⟨T13, lo13, X13, e13, N13, st13⟩ : ∃ (T' : State) (lo : List Loc) (_ : Stand p l e room_1 s m #[(.int p1), (.int p2), (.int p3), (.int p4), (.int p5), (.int p6)] below meth c T' lo 3 9), T'.heap = T5.heap ∧ Fr n0 lo ∧ ∀ t, Steps p.tables e below (T'.setTop (mkF m 75 #[.val (.int p1), .val (.int p2), .val (.int p3), .val (.int p4), .val (.int p5), .val (.int p6), .val (.ref o1), .val (.ref o3), .val (.ref r5), .unset, .unset] [(.int (f0_1 p1 p2 p3 p4 p5 p6))])) t → Steps p.tables e below (T8.setTop (mkF m 55 #[.val (.int p1), .val (.int p2), .val (.int p3), .val (.int p4), .val (.int p5), .val (.int p6), .val (.ref o1), .val (.ref o3), .val (.ref r5), .unset, .unset] [(.int (p2 + p5)), (.int (f5 (p1 + p4) (p2 + p5) (p3 + p6)))])) t := by
        by_cases h9 : (f5 (p1 + p4) (p2 + p5) (p3 + p6)) = (p2 + p5)
        · obtain ⟨cq10, kq10, q10a, q10b, q10c⟩ := isOf hZ e8 c5_0
          obtain ⟨_, _, ⟨T10, L10, k10, n10⟩, -, X10, ⟨Lc10, hQ10, l10, y10, z10⟩, st10⟩ := X8.virtualBack hx (y := (⟨"com/example/hitotabi/hitotabi/RelayTick", "failed", "()I"⟩ : MethodName)) (z := (⟨"com/example/hitotabi/hitotabi/RelayTick", "failed", "()I"⟩ : MethodName)) hown (mvT hZ (hw _ (List.mem_of_getElem? (i := 32) rfl))) (mvT hZ (hw _ (List.mem_of_getElem? (i := 33) rfl))) (notFace_of_selects (args := #[]) (mvT hZ (hw _ (List.mem_of_getElem? (i := 35) rfl)))) (mvT hZ (hw _ (List.mem_of_getElem? (i := 35) rfl))) (mvT hZ (hw _ (List.mem_of_getElem? (i := 34) rfl))) (by decide) (backOf (W := 0) (rm6 l Z a0 hw [] r5 (p1 + p4) (p2 + p5) (p3 + p6) T5.heap n0 Z5 c5_1 c5_3 c5_2) hZ (hw _ (List.mem_of_getElem? (i := 36) rfl)) (hw _ (List.mem_of_getElem? (i := 2) rfl)) (by decide) (by decide)) q10a q10c (g := (mkF m 60 #[.val (.int p1), .val (.int p2), .val (.int p3), .val (.int p4), .val (.int p5), .val (.int p6), .val (.ref o1), .val (.ref o3), .val (.ref r5), .unset, .unset] [(.ref r5)])) rfl (by rw [hml]; rfl) (Steps.refl _) (argsL := []) (rest := []) (lenOf pd_2 rfl) rfl (by show 2 * 0 + _ ≤ _; exact Nat.le_of_eq rfl) (hb hby at_60) (fun _ _ => ⟨rfl, e8, (by decide : 3 + 0 ≤ _), (by decide : 9 + 0 ≤ _)⟩)
          dsimp only [Pt.U, Pt.locs, Pt.cells, Pt.slots] at X10 l10 y10 z10 st10 hQ10
          subst l10 y10 z10
          obtain ⟨rfl, N10q, e10⟩ := hQ10
          have N10 := Fr.app N8 N10q
          have st12 : ∀ t, Steps p.tables e below (T10.setTop (mkF m 75 #[.val (.int p1), .val (.int p2), .val (.int p3), .val (.int p4), .val (.int p5), .val (.int p6), .val (.ref o1), .val (.ref o3), .val (.ref r5), .unset, .unset] [(.int (f0_0 p1 p2 p3 p4 p5 p6))])) t → Steps p.tables e below (T10.setTop (mkF m 67 #[.val (.int p1), .val (.int p2), .val (.int p3), .val (.int p4), .val (.int p5), .val (.int p6), .val (.ref o1), .val (.ref o3), .val (.ref r5), .unset, .unset] [(.int (p3 + p6)), (.int (f6 (p1 + p4) (p2 + p5) (p3 + p6)))])) t := by
            intro t k
            by_cases h11 : (f6 (p1 + p4) (p2 + p5) (p3 + p6)) = (p3 + p6)
            · rw [show (f0_0 p1 p2 p3 p4 p5 p6) = (1 : Int32) from if_pos h11] at k
              show Steps p.tables e below (T10.setTop (mkF m 67 #[.val (.int p1), .val (.int p2), .val (.int p3), .val (.int p4), .val (.int p5), .val (.int p6), .val (.ref o1), .val (.ref o3), .val (.ref r5), .unset, .unset] [(.int (p3 + p6)), (.int (f6 (p1 + p4) (p2 + p5) (p3 + p6)))])) _
              refine XS.icmpNo X10.here hx rfl (hb hby at_67) rfl (teq h11).2 ?_
              show Steps p.tables e below (T10.setTop (mkF m 70 #[.val (.int p1), .val (.int p2), .val (.int p3), .val (.int p4), .val (.int p5), .val (.int p6), .val (.ref o1), .val (.ref o3), .val (.ref r5), .unset, .unset] [])) _
              refine XS.iconst X10.here hx rfl (hb hby at_70) ?_
              show Steps p.tables e below (T10.setTop (mkF m 71 #[.val (.int p1), .val (.int p2), .val (.int p3), .val (.int p4), .val (.int p5), .val (.int p6), .val (.ref o1), .val (.ref o3), .val (.ref r5), .unset, .unset] [(.int (1 : Int32))])) _
              refine XS.goto X10.here hx rfl (pc0 := 71) (pc' := 75) rfl (hb hby at_71) (by decide) (by decide) ?_
              exact k
            · rw [show (f0_0 p1 p2 p3 p4 p5 p6) = (0 : Int32) from if_neg h11] at k
              show Steps p.tables e below (T10.setTop (mkF m 67 #[.val (.int p1), .val (.int p2), .val (.int p3), .val (.int p4), .val (.int p5), .val (.int p6), .val (.ref o1), .val (.ref o3), .val (.ref r5), .unset, .unset] [(.int (p3 + p6)), (.int (f6 (p1 + p4) (p2 + p5) (p3 + p6)))])) _
              refine XS.icmpYes X10.here hx rfl (pc0 := 67) (pc' := 74) rfl (hb hby at_67) rfl (feq h11).2 (by decide) (by decide) ?_
              show Steps p.tables e below (T10.setTop (mkF m 74 #[.val (.int p1), .val (.int p2), .val (.int p3), .val (.int p4), .val (.int p5), .val (.int p6), .val (.ref o1), .val (.ref o3), .val (.ref r5), .unset, .unset] [])) _
              refine XS.iconst X10.here hx rfl (hb hby at_74) ?_
              exact k
          refine ⟨T10, _, X10, e10, N10, fun t k => ?_⟩
          rw [show (f0_1 p1 p2 p3 p4 p5 p6) = (f0_0 p1 p2 p3 p4 p5 p6) from if_pos h9] at k
          show Steps p.tables e below (T8.setTop (mkF m 55 #[.val (.int p1), .val (.int p2), .val (.int p3), .val (.int p4), .val (.int p5), .val (.int p6), .val (.ref o1), .val (.ref o3), .val (.ref r5), .unset, .unset] [(.int (p2 + p5)), (.int (f5 (p1 + p4) (p2 + p5) (p3 + p6)))])) _
          refine XS.icmpNo X8.here hx rfl (hb hby at_55) rfl (teq h9).2 ?_
          show Steps p.tables e below (T8.setTop (mkF m 58 #[.val (.int p1), .val (.int p2), .val (.int p3), .val (.int p4), .val (.int p5), .val (.int p6), .val (.ref o1), .val (.ref o3), .val (.ref r5), .unset, .unset] [])) _
          refine XS.aload X8.here hx rfl (hb hby at_58) rfl rfl ?_
          show Steps p.tables e below (T8.setTop (mkF m 60 #[.val (.int p1), .val (.int p2), .val (.int p3), .val (.int p4), .val (.int p5), .val (.int p6), .val (.ref o1), .val (.ref o3), .val (.ref r5), .unset, .unset] [(.ref r5)])) _
          refine st10.trans ?_
          show Steps p.tables e below (T10.setTop (mkF m 63 #[.val (.int p1), .val (.int p2), .val (.int p3), .val (.int p4), .val (.int p5), .val (.int p6), .val (.ref o1), .val (.ref o3), .val (.ref r5), .unset, .unset] [(.int (f6 (p1 + p4) (p2 + p5) (p3 + p6)))])) _
          refine XS.iloadN X10.here hx rfl (hb hby at_63) rfl ?_
          show Steps p.tables e below (T10.setTop (mkF m 64 #[.val (.int p1), .val (.int p2), .val (.int p3), .val (.int p4), .val (.int p5), .val (.int p6), .val (.ref o1), .val (.ref o3), .val (.ref r5), .unset, .unset] [(.int p3), (.int (f6 (p1 + p4) (p2 + p5) (p3 + p6)))])) _
          refine XS.iload X10.here hx rfl (hb hby at_64) rfl ?_
          show Steps p.tables e below (T10.setTop (mkF m 66 #[.val (.int p1), .val (.int p2), .val (.int p3), .val (.int p4), .val (.int p5), .val (.int p6), .val (.ref o1), .val (.ref o3), .val (.ref r5), .unset, .unset] [(.int p6), (.int p3), (.int (f6 (p1 + p4) (p2 + p5) (p3 + p6)))])) _
          refine XS.iadd X10.here hx rfl (hb hby at_66) rfl ?_
          show Steps p.tables e below (T10.setTop (mkF m 67 #[.val (.int p1), .val (.int p2), .val (.int p3), .val (.int p4), .val (.int p5), .val (.int p6), .val (.ref o1), .val (.ref o3), .val (.ref r5), .unset, .unset] [(.int (p3 + p6)), (.int (f6 (p1 + p4) (p2 + p5) (p3 + p6)))])) _
          refine st12 _ ?_
          exact k
        · refine ⟨T8, _, X8, e8, N8, fun t k => ?_⟩
          rw [show (f0_1 p1 p2 p3 p4 p5 p6) = (0 : Int32) from if_neg h9] at k
          show Steps p.tables e below (T8.setTop (mkF m 55 #[.val (.int p1), .val (.int p2), .val (.int p3), .val (.int p4), .val (.int p5), .val (.int p6), .val (.ref o1), .val (.ref o3), .val (.ref r5), .unset, .unset] [(.int (p2 + p5)), (.int (f5 (p1 + p4) (p2 + p5) (p3 + p6)))])) _
          refine XS.icmpYes X8.here hx rfl (pc0 := 55) (pc' := 74) rfl (hb hby at_55) rfl (feq h9).2 (by decide) (by decide) ?_
          show Steps p.tables e below (T8.setTop (mkF m 74 #[.val (.int p1), .val (.int p2), .val (.int p3), .val (.int p4), .val (.int p5), .val (.int p6), .val (.ref o1), .val (.ref o3), .val (.ref r5), .unset, .unset] [])) _
          refine XS.iconst X8.here hx rfl (hb hby at_74) ?_
          exact k
      refine ⟨T13, _, X13, e13, N13, fun t k => ?_⟩
      rw [show (f0_2 p1 p2 p3 p4 p5 p6) = (f0_1 p1 p2 p3 p4 p5 p6) from if_pos h7] at k
      show Steps p.tables e below (T6.setTop (mkF m 43 #[.val (.int p1), .val (.int p2), .val (.int p3), .val (.int p4), .val (.int p5), .val (.int p6), .val (.ref o1), .val (.ref o3), .val (.ref r5), .unset, .unset] [(.int (p1 + p4)), (.int (f4 (p1 + p4) (p2 + p5) (p3 + p6)))])) _
      refine XS.icmpNo X6.here hx rfl (hb hby at_43) rfl (teq h7).2 ?_
      show Steps p.tables e below (T6.setTop (mkF m 46 #[.val (.int p1), .val (.int p2), .val (.int p3), .val (.int p4), .val (.int p5), .val (.int p6), .val (.ref o1), .val (.ref o3), .val (.ref r5), .unset, .unset] [])) _
      refine XS.aload X6.here hx rfl (hb hby at_46) rfl rfl ?_
      show Steps p.tables e below (T6.setTop (mkF m 48 #[.val (.int p1), .val (.int p2), .val (.int p3), .val (.int p4), .val (.int p5), .val (.int p6), .val (.ref o1), .val (.ref o3), .val (.ref r5), .unset, .unset] [(.ref r5)])) _
      refine st8.trans ?_
      show Steps p.tables e below (T8.setTop (mkF m 51 #[.val (.int p1), .val (.int p2), .val (.int p3), .val (.int p4), .val (.int p5), .val (.int p6), .val (.ref o1), .val (.ref o3), .val (.ref r5), .unset, .unset] [(.int (f5 (p1 + p4) (p2 + p5) (p3 + p6)))])) _
      refine XS.iloadN X8.here hx rfl (hb hby at_51) rfl ?_
      show Steps p.tables e below (T8.setTop (mkF m 52 #[.val (.int p1), .val (.int p2), .val (.int p3), .val (.int p4), .val (.int p5), .val (.int p6), .val (.ref o1), .val (.ref o3), .val (.ref r5), .unset, .unset] [(.int p2), (.int (f5 (p1 + p4) (p2 + p5) (p3 + p6)))])) _
      refine XS.iload X8.here hx rfl (hb hby at_52) rfl ?_
      show Steps p.tables e below (T8.setTop (mkF m 54 #[.val (.int p1), .val (.int p2), .val (.int p3), .val (.int p4), .val (.int p5), .val (.int p6), .val (.ref o1), .val (.ref o3), .val (.ref r5), .unset, .unset] [(.int p5), (.int p2), (.int (f5 (p1 + p4) (p2 + p5) (p3 + p6)))])) _
      refine XS.iadd X8.here hx rfl (hb hby at_54) rfl ?_
      show Steps p.tables e below (T8.setTop (mkF m 55 #[.val (.int p1), .val (.int p2), .val (.int p3), .val (.int p4), .val (.int p5), .val (.int p6), .val (.ref o1), .val (.ref o3), .val (.ref r5), .unset, .unset] [(.int (p2 + p5)), (.int (f5 (p1 + p4) (p2 + p5) (p3 + p6)))])) _
      refine st13 _ ?_
      exact k
    · refine ⟨T6, _, X6, e6, N6, fun t k => ?_⟩
      rw [show (f0_2 p1 p2 p3 p4 p5 p6) = (0 : Int32) from if_neg h7] at k
      show Steps p.tables e below (T6.setTop (mkF m 43 #[.val (.int p1), .val (.int p2), .val (.int p3), .val (.int p4), .val (.int p5), .val (.int p6), .val (.ref o1), .val (.ref o3), .val (.ref r5), .unset, .unset] [(.int (p1 + p4)), (.int (f4 (p1 + p4) (p2 + p5) (p3 + p6)))])) _
      refine XS.icmpYes X6.here hx rfl (pc0 := 43) (pc' := 74) rfl (hb hby at_43) rfl (feq h7).2 (by decide) (by decide) ?_
      show Steps p.tables e below (T6.setTop (mkF m 74 #[.val (.int p1), .val (.int p2), .val (.int p3), .val (.int p4), .val (.int p5), .val (.int p6), .val (.ref o1), .val (.ref o3), .val (.ref r5), .unset, .unset] [])) _
      refine XS.iconst X6.here hx rfl (hb hby at_74) ?_
      exact k
  obtain ⟨cq15, kq15, q15a, q15b, q15c⟩ := isOf hZ e14 c5_0
  obtain ⟨_, _, ⟨T15, L15, k15, n15⟩, -, X15, ⟨Lc15, hQ15, l15, y15, z15⟩, st15⟩ := X14.virtualBack hx (y := (⟨"com/example/hitotabi/hitotabi/RelayTick", "lost", "()I"⟩ : MethodName)) (z := (⟨"com/example/hitotabi/hitotabi/RelayTick", "lost", "()I"⟩ : MethodName)) hown (mvT hZ (hw _ (List.mem_of_getElem? (i := 37) rfl))) (mvT hZ (hw _ (List.mem_of_getElem? (i := 38) rfl))) (notFace_of_selects (args := #[]) (mvT hZ (hw _ (List.mem_of_getElem? (i := 40) rfl)))) (mvT hZ (hw _ (List.mem_of_getElem? (i := 40) rfl))) (mvT hZ (hw _ (List.mem_of_getElem? (i := 39) rfl))) (by decide) (backOf (W := 0) (rm7 l Z a0 hw [] r5 (p1 + p4) (p2 + p5) (p3 + p6) T5.heap n0 Z5 c5_1 c5_3 c5_2) hZ (hw _ (List.mem_of_getElem? (i := 41) rfl)) (hw _ (List.mem_of_getElem? (i := 2) rfl)) (by decide) (by decide)) q15a q15c (g := (mkF m 79 #[.val (.int p1), .val (.int p2), .val (.int p3), .val (.int p4), .val (.int p5), .val (.int p6), .val (.ref o1), .val (.ref o3), .val (.ref r5), .val (.int (f0_2 p1 p2 p3 p4 p5 p6)), .unset] [(.ref r5)])) rfl (by rw [hml]; rfl) (Steps.refl _) (argsL := []) (rest := []) (lenOf pd_2 rfl) rfl (by show 2 * 0 + _ ≤ _; exact Nat.le_of_eq rfl) (hb hby at_79) (fun _ _ => ⟨rfl, e14, (by decide : 3 + 0 ≤ _), (by decide : 9 + 0 ≤ _)⟩)
  dsimp only [Pt.U, Pt.locs, Pt.cells, Pt.slots] at X15 l15 y15 z15 st15 hQ15
  subst l15 y15 z15
  obtain ⟨rfl, N15q, e15⟩ := hQ15
  have N15 := Fr.app N14 N15q
  obtain ⟨cq16, kq16, q16a, q16b, q16c⟩ := isOf hZ e15 u5_0
  obtain ⟨_, _, ⟨T16, L16, k16, n16⟩, -, X16, ⟨Lc16, hQ16, l16, y16, z16⟩, st16⟩ := X15.virtualBack hx (y := (⟨"com/example/hitotabi/hitotabi/RelayTick", "lost", "()I"⟩ : MethodName)) (z := (⟨"com/example/hitotabi/hitotabi/RelayTick", "lost", "()I"⟩ : MethodName)) hown (mvT hZ (hw _ (List.mem_of_getElem? (i := 37) rfl))) (mvT hZ (hw _ (List.mem_of_getElem? (i := 38) rfl))) (notFace_of_selects (args := #[]) (mvT hZ (hw _ (List.mem_of_getElem? (i := 40) rfl)))) (mvT hZ (hw _ (List.mem_of_getElem? (i := 40) rfl))) (mvT hZ (hw _ (List.mem_of_getElem? (i := 39) rfl))) (by decide) (backOf (W := 1) (rm7 l Z a0 hw [] o1 p1 p2 p3 T5.heap n0 Z5 u5_1 u5_3 u5_2) hZ (hw _ (List.mem_of_getElem? (i := 41) rfl)) (hw _ (List.mem_of_getElem? (i := 2) rfl)) (by decide) (by decide)) q16a q16c (g := (mkF m 84 #[.val (.int p1), .val (.int p2), .val (.int p3), .val (.int p4), .val (.int p5), .val (.int p6), .val (.ref o1), .val (.ref o3), .val (.ref r5), .val (.int (f0_2 p1 p2 p3 p4 p5 p6)), .unset] [(.ref o1), (.int (f7 (p1 + p4) (p2 + p5) (p3 + p6)))])) rfl (by rw [hml]; rfl) (Steps.refl _) (argsL := []) (rest := [(.int (f7 (p1 + p4) (p2 + p5) (p3 + p6)))]) (lenOf pd_2 rfl) rfl (by show 2 * 0 + _ ≤ _; exact Nat.le_of_eq rfl) (hb hby at_84) (fun _ _ => ⟨rfl, e15, (by decide : 3 + 0 ≤ _), (by decide : 9 + 0 ≤ _)⟩)
  dsimp only [Pt.U, Pt.locs, Pt.cells, Pt.slots] at X16 l16 y16 z16 st16 hQ16
  subst l16 y16 z16
  obtain ⟨rfl, N16q, e16⟩ := hQ16
  have N16 := Fr.app N15 N16q
  obtain ⟨cq17, kq17, q17a, q17b, q17c⟩ := isOf hZ e16 u5_4
  obtain ⟨_, _, ⟨T17, L17, k17, n17⟩, -, X17, ⟨Lc17, hQ17, l17, y17, z17⟩, st17⟩ := X16.virtualBack hx (y := (⟨"com/example/hitotabi/hitotabi/RelayTick", "lost", "()I"⟩ : MethodName)) (z := (⟨"com/example/hitotabi/hitotabi/RelayTick", "lost", "()I"⟩ : MethodName)) hown (mvT hZ (hw _ (List.mem_of_getElem? (i := 37) rfl))) (mvT hZ (hw _ (List.mem_of_getElem? (i := 38) rfl))) (notFace_of_selects (args := #[]) (mvT hZ (hw _ (List.mem_of_getElem? (i := 40) rfl)))) (mvT hZ (hw _ (List.mem_of_getElem? (i := 40) rfl))) (mvT hZ (hw _ (List.mem_of_getElem? (i := 39) rfl))) (by decide) (backOf (W := 2) (rm7 l Z a0 hw [] o3 p4 p5 p6 T5.heap n0 Z5 u5_5 u5_7 u5_6) hZ (hw _ (List.mem_of_getElem? (i := 41) rfl)) (hw _ (List.mem_of_getElem? (i := 2) rfl)) (by decide) (by decide)) q17a q17c (g := (mkF m 89 #[.val (.int p1), .val (.int p2), .val (.int p3), .val (.int p4), .val (.int p5), .val (.int p6), .val (.ref o1), .val (.ref o3), .val (.ref r5), .val (.int (f0_2 p1 p2 p3 p4 p5 p6)), .unset] [(.ref o3), (.int (f7 p1 p2 p3)), (.int (f7 (p1 + p4) (p2 + p5) (p3 + p6)))])) rfl (by rw [hml]; rfl) (Steps.refl _) (argsL := []) (rest := [(.int (f7 p1 p2 p3)), (.int (f7 (p1 + p4) (p2 + p5) (p3 + p6)))]) (lenOf pd_2 rfl) rfl (by show 2 * 0 + _ ≤ _; exact Nat.le_of_eq rfl) (hb hby at_89) (fun _ _ => ⟨rfl, e16, (by decide : 3 + 0 ≤ _), (by decide : 9 + 0 ≤ _)⟩)
  dsimp only [Pt.U, Pt.locs, Pt.cells, Pt.slots] at X17 l17 y17 z17 st17 hQ17
  subst l17 y17 z17
  obtain ⟨rfl, N17q, e17⟩ := hQ17
  have N17 := Fr.app N16 N17q
  have st19 : ∀ t, Steps p.tables e below (T17.setTop (mkF m 101 #[.val (.int p1), .val (.int p2), .val (.int p3), .val (.int p4), .val (.int p5), .val (.int p6), .val (.ref o1), .val (.ref o3), .val (.ref r5), .val (.int (f0_2 p1 p2 p3 p4 p5 p6)), .unset] [(.int (f0_3 p1 p2 p3 p4 p5 p6))])) t → Steps p.tables e below (T17.setTop (mkF m 93 #[.val (.int p1), .val (.int p2), .val (.int p3), .val (.int p4), .val (.int p5), .val (.int p6), .val (.ref o1), .val (.ref o3), .val (.ref r5), .val (.int (f0_2 p1 p2 p3 p4 p5 p6)), .unset] [(.int ((f7 p1 p2 p3) + (f7 p4 p5 p6))), (.int (f7 (p1 + p4) (p2 + p5) (p3 + p6)))])) t := by
    intro t k
    by_cases h18 : (f7 (p1 + p4) (p2 + p5) (p3 + p6)) = ((f7 p1 p2 p3) + (f7 p4 p5 p6))
    · rw [show (f0_3 p1 p2 p3 p4 p5 p6) = (1 : Int32) from if_pos h18] at k
      show Steps p.tables e below (T17.setTop (mkF m 93 #[.val (.int p1), .val (.int p2), .val (.int p3), .val (.int p4), .val (.int p5), .val (.int p6), .val (.ref o1), .val (.ref o3), .val (.ref r5), .val (.int (f0_2 p1 p2 p3 p4 p5 p6)), .unset] [(.int ((f7 p1 p2 p3) + (f7 p4 p5 p6))), (.int (f7 (p1 + p4) (p2 + p5) (p3 + p6)))])) _
      refine XS.icmpNo X17.here hx rfl (hb hby at_93) rfl (teq h18).2 ?_
      show Steps p.tables e below (T17.setTop (mkF m 96 #[.val (.int p1), .val (.int p2), .val (.int p3), .val (.int p4), .val (.int p5), .val (.int p6), .val (.ref o1), .val (.ref o3), .val (.ref r5), .val (.int (f0_2 p1 p2 p3 p4 p5 p6)), .unset] [])) _
      refine XS.iconst X17.here hx rfl (hb hby at_96) ?_
      show Steps p.tables e below (T17.setTop (mkF m 97 #[.val (.int p1), .val (.int p2), .val (.int p3), .val (.int p4), .val (.int p5), .val (.int p6), .val (.ref o1), .val (.ref o3), .val (.ref r5), .val (.int (f0_2 p1 p2 p3 p4 p5 p6)), .unset] [(.int (1 : Int32))])) _
      refine XS.goto X17.here hx rfl (pc0 := 97) (pc' := 101) rfl (hb hby at_97) (by decide) (by decide) ?_
      exact k
    · rw [show (f0_3 p1 p2 p3 p4 p5 p6) = (0 : Int32) from if_neg h18] at k
      show Steps p.tables e below (T17.setTop (mkF m 93 #[.val (.int p1), .val (.int p2), .val (.int p3), .val (.int p4), .val (.int p5), .val (.int p6), .val (.ref o1), .val (.ref o3), .val (.ref r5), .val (.int (f0_2 p1 p2 p3 p4 p5 p6)), .unset] [(.int ((f7 p1 p2 p3) + (f7 p4 p5 p6))), (.int (f7 (p1 + p4) (p2 + p5) (p3 + p6)))])) _
      refine XS.icmpYes X17.here hx rfl (pc0 := 93) (pc' := 100) rfl (hb hby at_93) rfl (feq h18).2 (by decide) (by decide) ?_
      show Steps p.tables e below (T17.setTop (mkF m 100 #[.val (.int p1), .val (.int p2), .val (.int p3), .val (.int p4), .val (.int p5), .val (.int p6), .val (.ref o1), .val (.ref o3), .val (.ref r5), .val (.int (f0_2 p1 p2 p3 p4 p5 p6)), .unset] [])) _
      refine XS.iconst X17.here hx rfl (hb hby at_100) ?_
      exact k
  have st23 : ∀ t, Steps p.tables e below (T17.setTop (mkF m 118 #[.val (.int p1), .val (.int p2), .val (.int p3), .val (.int p4), .val (.int p5), .val (.int p6), .val (.ref o1), .val (.ref o3), .val (.ref r5), .val (.int (f0_2 p1 p2 p3 p4 p5 p6)), .val (.int (f0_3 p1 p2 p3 p4 p5 p6))] [(.int (f0_5 p1 p2 p3 p4 p5 p6))])) t → Steps p.tables e below (T17.setTop (mkF m 105 #[.val (.int p1), .val (.int p2), .val (.int p3), .val (.int p4), .val (.int p5), .val (.int p6), .val (.ref o1), .val (.ref o3), .val (.ref r5), .val (.int (f0_2 p1 p2 p3 p4 p5 p6)), .val (.int (f0_3 p1 p2 p3 p4 p5 p6))] [(.int (f0_2 p1 p2 p3 p4 p5 p6))])) t := by
    intro t k
    by_cases h20 : (f0_2 p1 p2 p3 p4 p5 p6) = (0 : Int32)
    · rw [show (f0_5 p1 p2 p3 p4 p5 p6) = (0 : Int32) from if_pos h20] at k
      show Steps p.tables e below (T17.setTop (mkF m 105 #[.val (.int p1), .val (.int p2), .val (.int p3), .val (.int p4), .val (.int p5), .val (.int p6), .val (.ref o1), .val (.ref o3), .val (.ref r5), .val (.int (f0_2 p1 p2 p3 p4 p5 p6)), .val (.int (f0_3 p1 p2 p3 p4 p5 p6))] [(.int (f0_2 p1 p2 p3 p4 p5 p6))])) _
      refine XS.ifYes X17.here hx rfl (pc0 := 105) (pc' := 117) rfl (hb hby at_105) rfl ((if0 _ _).trans (teq h20).1) (by decide) (by decide) ?_
      show Steps p.tables e below (T17.setTop (mkF m 117 #[.val (.int p1), .val (.int p2), .val (.int p3), .val (.int p4), .val (.int p5), .val (.int p6), .val (.ref o1), .val (.ref o3), .val (.ref r5), .val (.int (f0_2 p1 p2 p3 p4 p5 p6)), .val (.int (f0_3 p1 p2 p3 p4 p5 p6))] [])) _
      refine XS.iconst X17.here hx rfl (hb hby at_117) ?_
      exact k
    · have st22 : ∀ t, Steps p.tables e below (T17.setTop (mkF m 118 #[.val (.int p1), .val (.int p2), .val (.int p3), .val (.int p4), .val (.int p5), .val (.int p6), .val (.ref o1), .val (.ref o3), .val (.ref r5), .val (.int (f0_2 p1 p2 p3 p4 p5 p6)), .val (.int (f0_3 p1 p2 p3 p4 p5 p6))] [(.int (f0_4 p1 p2 p3 p4 p5 p6))])) t → Steps p.tables e below (T17.setTop (mkF m 110 #[.val (.int p1), .val (.int p2), .val (.int p3), .val (.int p4), .val (.int p5), .val (.int p6), .val (.ref o1), .val (.ref o3), .val (.ref r5), .val (.int (f0_2 p1 p2 p3 p4 p5 p6)), .val (.int (f0_3 p1 p2 p3 p4 p5 p6))] [(.int (f0_3 p1 p2 p3 p4 p5 p6))])) t := by
        intro t k
        by_cases h21 : (f0_3 p1 p2 p3 p4 p5 p6) = (0 : Int32)
        · rw [show (f0_4 p1 p2 p3 p4 p5 p6) = (0 : Int32) from if_pos h21] at k
          show Steps p.tables e below (T17.setTop (mkF m 110 #[.val (.int p1), .val (.int p2), .val (.int p3), .val (.int p4), .val (.int p5), .val (.int p6), .val (.ref o1), .val (.ref o3), .val (.ref r5), .val (.int (f0_2 p1 p2 p3 p4 p5 p6)), .val (.int (f0_3 p1 p2 p3 p4 p5 p6))] [(.int (f0_3 p1 p2 p3 p4 p5 p6))])) _
          refine XS.ifYes X17.here hx rfl (pc0 := 110) (pc' := 117) rfl (hb hby at_110) rfl ((if0 _ _).trans (teq h21).1) (by decide) (by decide) ?_
          show Steps p.tables e below (T17.setTop (mkF m 117 #[.val (.int p1), .val (.int p2), .val (.int p3), .val (.int p4), .val (.int p5), .val (.int p6), .val (.ref o1), .val (.ref o3), .val (.ref r5), .val (.int (f0_2 p1 p2 p3 p4 p5 p6)), .val (.int (f0_3 p1 p2 p3 p4 p5 p6))] [])) _
          refine XS.iconst X17.here hx rfl (hb hby at_117) ?_
          exact k
        · rw [show (f0_4 p1 p2 p3 p4 p5 p6) = (1 : Int32) from if_neg h21] at k
          show Steps p.tables e below (T17.setTop (mkF m 110 #[.val (.int p1), .val (.int p2), .val (.int p3), .val (.int p4), .val (.int p5), .val (.int p6), .val (.ref o1), .val (.ref o3), .val (.ref r5), .val (.int (f0_2 p1 p2 p3 p4 p5 p6)), .val (.int (f0_3 p1 p2 p3 p4 p5 p6))] [(.int (f0_3 p1 p2 p3 p4 p5 p6))])) _
          refine XS.ifNo X17.here hx rfl (hb hby at_110) rfl ((if0 _ _).trans (feq h21).1) ?_
          show Steps p.tables e below (T17.setTop (mkF m 113 #[.val (.int p1), .val (.int p2), .val (.int p3), .val (.int p4), .val (.int p5), .val (.int p6), .val (.ref o1), .val (.ref o3), .val (.ref r5), .val (.int (f0_2 p1 p2 p3 p4 p5 p6)), .val (.int (f0_3 p1 p2 p3 p4 p5 p6))] [])) _
          refine XS.iconst X17.here hx rfl (hb hby at_113) ?_
          show Steps p.tables e below (T17.setTop (mkF m 114 #[.val (.int p1), .val (.int p2), .val (.int p3), .val (.int p4), .val (.int p5), .val (.int p6), .val (.ref o1), .val (.ref o3), .val (.ref r5), .val (.int (f0_2 p1 p2 p3 p4 p5 p6)), .val (.int (f0_3 p1 p2 p3 p4 p5 p6))] [(.int (1 : Int32))])) _
          refine XS.goto X17.here hx rfl (pc0 := 114) (pc' := 118) rfl (hb hby at_114) (by decide) (by decide) ?_
          exact k
      rw [show (f0_5 p1 p2 p3 p4 p5 p6) = (f0_4 p1 p2 p3 p4 p5 p6) from if_neg h20] at k
      show Steps p.tables e below (T17.setTop (mkF m 105 #[.val (.int p1), .val (.int p2), .val (.int p3), .val (.int p4), .val (.int p5), .val (.int p6), .val (.ref o1), .val (.ref o3), .val (.ref r5), .val (.int (f0_2 p1 p2 p3 p4 p5 p6)), .val (.int (f0_3 p1 p2 p3 p4 p5 p6))] [(.int (f0_2 p1 p2 p3 p4 p5 p6))])) _
      refine XS.ifNo X17.here hx rfl (hb hby at_105) rfl ((if0 _ _).trans (feq h20).1) ?_
      show Steps p.tables e below (T17.setTop (mkF m 108 #[.val (.int p1), .val (.int p2), .val (.int p3), .val (.int p4), .val (.int p5), .val (.int p6), .val (.ref o1), .val (.ref o3), .val (.ref r5), .val (.int (f0_2 p1 p2 p3 p4 p5 p6)), .val (.int (f0_3 p1 p2 p3 p4 p5 p6))] [])) _
      refine XS.iload X17.here hx rfl (hb hby at_108) rfl ?_
      show Steps p.tables e below (T17.setTop (mkF m 110 #[.val (.int p1), .val (.int p2), .val (.int p3), .val (.int p4), .val (.int p5), .val (.int p6), .val (.ref o1), .val (.ref o3), .val (.ref r5), .val (.int (f0_2 p1 p2 p3 p4 p5 p6)), .val (.int (f0_3 p1 p2 p3 p4 p5 p6))] [(.int (f0_3 p1 p2 p3 p4 p5 p6))])) _
      refine st22 _ ?_
      exact k
  obtain ⟨fs, hr, hrun, hended, hW, hsame⟩ := X17.leave (v := some (.int ((f0_5 p1 p2 p3 p4 p5 p6) &&& 1))) (fun h => by rw [Bd.returns] at h; cases h)
  refine ⟨_, _, ?_, hrun, hended, _, _, rfl, ?_, ⟨_, rfl⟩, hW, hsame.mono (by decide) (by decide)⟩
  · show Steps p.tables e below (s₁.setTop (mkF m 0 #[.val (.int p1), .val (.int p2), .val (.int p3), .val (.int p4), .val (.int p5), .val (.int p6), .unset, .unset, .unset, .unset, .unset] [])) _
    refine st1 _ ?_
    show Steps p.tables e below (T1.setTop (mkF m 3 #[.val (.int p1), .val (.int p2), .val (.int p3), .val (.int p4), .val (.int p5), .val (.int p6), .unset, .unset, .unset, .unset, .unset] [(.ref o1)])) _
    refine XS.dup X1.here hx rfl (hb hby at_3) rfl rfl ?_
    show Steps p.tables e below (T1.setTop (mkF m 4 #[.val (.int p1), .val (.int p2), .val (.int p3), .val (.int p4), .val (.int p5), .val (.int p6), .unset, .unset, .unset, .unset, .unset] [(.ref o1), (.ref o1)])) _
    refine XS.iloadN X1.here hx rfl (hb hby at_4) rfl ?_
    show Steps p.tables e below (T1.setTop (mkF m 5 #[.val (.int p1), .val (.int p2), .val (.int p3), .val (.int p4), .val (.int p5), .val (.int p6), .unset, .unset, .unset, .unset, .unset] [(.int p1), (.ref o1), (.ref o1)])) _
    refine XS.iloadN X1.here hx rfl (hb hby at_5) rfl ?_
    show Steps p.tables e below (T1.setTop (mkF m 6 #[.val (.int p1), .val (.int p2), .val (.int p3), .val (.int p4), .val (.int p5), .val (.int p6), .unset, .unset, .unset, .unset, .unset] [(.int p2), (.int p1), (.ref o1), (.ref o1)])) _
    refine XS.iloadN X1.here hx rfl (hb hby at_6) rfl ?_
    show Steps p.tables e below (T1.setTop (mkF m 7 #[.val (.int p1), .val (.int p2), .val (.int p3), .val (.int p4), .val (.int p5), .val (.int p6), .unset, .unset, .unset, .unset, .unset] [(.int p3), (.int p2), (.int p1), (.ref o1), (.ref o1)])) _
    refine st2.trans ?_
    show Steps p.tables e below (T2.setTop (mkF m 10 #[.val (.int p1), .val (.int p2), .val (.int p3), .val (.int p4), .val (.int p5), .val (.int p6), .unset, .unset, .unset, .unset, .unset] [(.ref o1)])) _
    refine XS.astore X2.here hx rfl (hb hby at_10) rfl rfl (l' := #[.val (.int p1), .val (.int p2), .val (.int p3), .val (.int p4), .val (.int p5), .val (.int p6), .val (.ref o1), .unset, .unset, .unset, .unset]) rfl ?_
    show Steps p.tables e below (T2.setTop (mkF m 12 #[.val (.int p1), .val (.int p2), .val (.int p3), .val (.int p4), .val (.int p5), .val (.int p6), .val (.ref o1), .unset, .unset, .unset, .unset] [])) _
    refine st3 _ ?_
    show Steps p.tables e below (T3.setTop (mkF m 15 #[.val (.int p1), .val (.int p2), .val (.int p3), .val (.int p4), .val (.int p5), .val (.int p6), .val (.ref o1), .unset, .unset, .unset, .unset] [(.ref o3)])) _
    refine XS.dup X3.here hx rfl (hb hby at_15) rfl rfl ?_
    show Steps p.tables e below (T3.setTop (mkF m 16 #[.val (.int p1), .val (.int p2), .val (.int p3), .val (.int p4), .val (.int p5), .val (.int p6), .val (.ref o1), .unset, .unset, .unset, .unset] [(.ref o3), (.ref o3)])) _
    refine XS.iloadN X3.here hx rfl (hb hby at_16) rfl ?_
    show Steps p.tables e below (T3.setTop (mkF m 17 #[.val (.int p1), .val (.int p2), .val (.int p3), .val (.int p4), .val (.int p5), .val (.int p6), .val (.ref o1), .unset, .unset, .unset, .unset] [(.int p4), (.ref o3), (.ref o3)])) _
    refine XS.iload X3.here hx rfl (hb hby at_17) rfl ?_
    show Steps p.tables e below (T3.setTop (mkF m 19 #[.val (.int p1), .val (.int p2), .val (.int p3), .val (.int p4), .val (.int p5), .val (.int p6), .val (.ref o1), .unset, .unset, .unset, .unset] [(.int p5), (.int p4), (.ref o3), (.ref o3)])) _
    refine XS.iload X3.here hx rfl (hb hby at_19) rfl ?_
    show Steps p.tables e below (T3.setTop (mkF m 21 #[.val (.int p1), .val (.int p2), .val (.int p3), .val (.int p4), .val (.int p5), .val (.int p6), .val (.ref o1), .unset, .unset, .unset, .unset] [(.int p6), (.int p5), (.int p4), (.ref o3), (.ref o3)])) _
    refine st4.trans ?_
    show Steps p.tables e below (T4.setTop (mkF m 24 #[.val (.int p1), .val (.int p2), .val (.int p3), .val (.int p4), .val (.int p5), .val (.int p6), .val (.ref o1), .unset, .unset, .unset, .unset] [(.ref o3)])) _
    refine XS.astore X4.here hx rfl (hb hby at_24) rfl rfl (l' := #[.val (.int p1), .val (.int p2), .val (.int p3), .val (.int p4), .val (.int p5), .val (.int p6), .val (.ref o1), .val (.ref o3), .unset, .unset, .unset]) rfl ?_
    show Steps p.tables e below (T4.setTop (mkF m 26 #[.val (.int p1), .val (.int p2), .val (.int p3), .val (.int p4), .val (.int p5), .val (.int p6), .val (.ref o1), .val (.ref o3), .unset, .unset, .unset] [])) _
    refine XS.aload X4.here hx rfl (hb hby at_26) rfl rfl ?_
    show Steps p.tables e below (T4.setTop (mkF m 28 #[.val (.int p1), .val (.int p2), .val (.int p3), .val (.int p4), .val (.int p5), .val (.int p6), .val (.ref o1), .val (.ref o3), .unset, .unset, .unset] [(.ref o1)])) _
    refine XS.aload X4.here hx rfl (hb hby at_28) rfl rfl ?_
    show Steps p.tables e below (T4.setTop (mkF m 30 #[.val (.int p1), .val (.int p2), .val (.int p3), .val (.int p4), .val (.int p5), .val (.int p6), .val (.ref o1), .val (.ref o3), .unset, .unset, .unset] [(.ref o3), (.ref o1)])) _
    refine st5.trans ?_
    show Steps p.tables e below (T5.setTop (mkF m 33 #[.val (.int p1), .val (.int p2), .val (.int p3), .val (.int p4), .val (.int p5), .val (.int p6), .val (.ref o1), .val (.ref o3), .unset, .unset, .unset] [(.ref r5)])) _
    refine XS.astore X5.here hx rfl (hb hby at_33) rfl rfl (l' := #[.val (.int p1), .val (.int p2), .val (.int p3), .val (.int p4), .val (.int p5), .val (.int p6), .val (.ref o1), .val (.ref o3), .val (.ref r5), .unset, .unset]) rfl ?_
    show Steps p.tables e below (T5.setTop (mkF m 35 #[.val (.int p1), .val (.int p2), .val (.int p3), .val (.int p4), .val (.int p5), .val (.int p6), .val (.ref o1), .val (.ref o3), .val (.ref r5), .unset, .unset] [])) _
    refine XS.aload X5.here hx rfl (hb hby at_35) rfl rfl ?_
    show Steps p.tables e below (T5.setTop (mkF m 37 #[.val (.int p1), .val (.int p2), .val (.int p3), .val (.int p4), .val (.int p5), .val (.int p6), .val (.ref o1), .val (.ref o3), .val (.ref r5), .unset, .unset] [(.ref r5)])) _
    refine st6.trans ?_
    show Steps p.tables e below (T6.setTop (mkF m 40 #[.val (.int p1), .val (.int p2), .val (.int p3), .val (.int p4), .val (.int p5), .val (.int p6), .val (.ref o1), .val (.ref o3), .val (.ref r5), .unset, .unset] [(.int (f4 (p1 + p4) (p2 + p5) (p3 + p6)))])) _
    refine XS.iloadN X6.here hx rfl (hb hby at_40) rfl ?_
    show Steps p.tables e below (T6.setTop (mkF m 41 #[.val (.int p1), .val (.int p2), .val (.int p3), .val (.int p4), .val (.int p5), .val (.int p6), .val (.ref o1), .val (.ref o3), .val (.ref r5), .unset, .unset] [(.int p1), (.int (f4 (p1 + p4) (p2 + p5) (p3 + p6)))])) _
    refine XS.iloadN X6.here hx rfl (hb hby at_41) rfl ?_
    show Steps p.tables e below (T6.setTop (mkF m 42 #[.val (.int p1), .val (.int p2), .val (.int p3), .val (.int p4), .val (.int p5), .val (.int p6), .val (.ref o1), .val (.ref o3), .val (.ref r5), .unset, .unset] [(.int p4), (.int p1), (.int (f4 (p1 + p4) (p2 + p5) (p3 + p6)))])) _
    refine XS.iadd X6.here hx rfl (hb hby at_42) rfl ?_
    show Steps p.tables e below (T6.setTop (mkF m 43 #[.val (.int p1), .val (.int p2), .val (.int p3), .val (.int p4), .val (.int p5), .val (.int p6), .val (.ref o1), .val (.ref o3), .val (.ref r5), .unset, .unset] [(.int (p1 + p4)), (.int (f4 (p1 + p4) (p2 + p5) (p3 + p6)))])) _
    refine st14 _ ?_
    show Steps p.tables e below (T14.setTop (mkF m 75 #[.val (.int p1), .val (.int p2), .val (.int p3), .val (.int p4), .val (.int p5), .val (.int p6), .val (.ref o1), .val (.ref o3), .val (.ref r5), .unset, .unset] [(.int (f0_2 p1 p2 p3 p4 p5 p6))])) _
    refine XS.istore X14.here hx rfl (hb hby at_75) rfl (l' := #[.val (.int p1), .val (.int p2), .val (.int p3), .val (.int p4), .val (.int p5), .val (.int p6), .val (.ref o1), .val (.ref o3), .val (.ref r5), .val (.int (f0_2 p1 p2 p3 p4 p5 p6)), .unset]) rfl ?_
    show Steps p.tables e below (T14.setTop (mkF m 77 #[.val (.int p1), .val (.int p2), .val (.int p3), .val (.int p4), .val (.int p5), .val (.int p6), .val (.ref o1), .val (.ref o3), .val (.ref r5), .val (.int (f0_2 p1 p2 p3 p4 p5 p6)), .unset] [])) _
    refine XS.aload X14.here hx rfl (hb hby at_77) rfl rfl ?_
    show Steps p.tables e below (T14.setTop (mkF m 79 #[.val (.int p1), .val (.int p2), .val (.int p3), .val (.int p4), .val (.int p5), .val (.int p6), .val (.ref o1), .val (.ref o3), .val (.ref r5), .val (.int (f0_2 p1 p2 p3 p4 p5 p6)), .unset] [(.ref r5)])) _
    refine st15.trans ?_
    show Steps p.tables e below (T15.setTop (mkF m 82 #[.val (.int p1), .val (.int p2), .val (.int p3), .val (.int p4), .val (.int p5), .val (.int p6), .val (.ref o1), .val (.ref o3), .val (.ref r5), .val (.int (f0_2 p1 p2 p3 p4 p5 p6)), .unset] [(.int (f7 (p1 + p4) (p2 + p5) (p3 + p6)))])) _
    refine XS.aload X15.here hx rfl (hb hby at_82) rfl rfl ?_
    show Steps p.tables e below (T15.setTop (mkF m 84 #[.val (.int p1), .val (.int p2), .val (.int p3), .val (.int p4), .val (.int p5), .val (.int p6), .val (.ref o1), .val (.ref o3), .val (.ref r5), .val (.int (f0_2 p1 p2 p3 p4 p5 p6)), .unset] [(.ref o1), (.int (f7 (p1 + p4) (p2 + p5) (p3 + p6)))])) _
    refine st16.trans ?_
    show Steps p.tables e below (T16.setTop (mkF m 87 #[.val (.int p1), .val (.int p2), .val (.int p3), .val (.int p4), .val (.int p5), .val (.int p6), .val (.ref o1), .val (.ref o3), .val (.ref r5), .val (.int (f0_2 p1 p2 p3 p4 p5 p6)), .unset] [(.int (f7 p1 p2 p3)), (.int (f7 (p1 + p4) (p2 + p5) (p3 + p6)))])) _
    refine XS.aload X16.here hx rfl (hb hby at_87) rfl rfl ?_
    show Steps p.tables e below (T16.setTop (mkF m 89 #[.val (.int p1), .val (.int p2), .val (.int p3), .val (.int p4), .val (.int p5), .val (.int p6), .val (.ref o1), .val (.ref o3), .val (.ref r5), .val (.int (f0_2 p1 p2 p3 p4 p5 p6)), .unset] [(.ref o3), (.int (f7 p1 p2 p3)), (.int (f7 (p1 + p4) (p2 + p5) (p3 + p6)))])) _
    refine st17.trans ?_
    show Steps p.tables e below (T17.setTop (mkF m 92 #[.val (.int p1), .val (.int p2), .val (.int p3), .val (.int p4), .val (.int p5), .val (.int p6), .val (.ref o1), .val (.ref o3), .val (.ref r5), .val (.int (f0_2 p1 p2 p3 p4 p5 p6)), .unset] [(.int (f7 p4 p5 p6)), (.int (f7 p1 p2 p3)), (.int (f7 (p1 + p4) (p2 + p5) (p3 + p6)))])) _
    refine XS.iadd X17.here hx rfl (hb hby at_92) rfl ?_
    show Steps p.tables e below (T17.setTop (mkF m 93 #[.val (.int p1), .val (.int p2), .val (.int p3), .val (.int p4), .val (.int p5), .val (.int p6), .val (.ref o1), .val (.ref o3), .val (.ref r5), .val (.int (f0_2 p1 p2 p3 p4 p5 p6)), .unset] [(.int ((f7 p1 p2 p3) + (f7 p4 p5 p6))), (.int (f7 (p1 + p4) (p2 + p5) (p3 + p6)))])) _
    refine st19 _ ?_
    show Steps p.tables e below (T17.setTop (mkF m 101 #[.val (.int p1), .val (.int p2), .val (.int p3), .val (.int p4), .val (.int p5), .val (.int p6), .val (.ref o1), .val (.ref o3), .val (.ref r5), .val (.int (f0_2 p1 p2 p3 p4 p5 p6)), .unset] [(.int (f0_3 p1 p2 p3 p4 p5 p6))])) _
    refine XS.istore X17.here hx rfl (hb hby at_101) rfl (l' := #[.val (.int p1), .val (.int p2), .val (.int p3), .val (.int p4), .val (.int p5), .val (.int p6), .val (.ref o1), .val (.ref o3), .val (.ref r5), .val (.int (f0_2 p1 p2 p3 p4 p5 p6)), .val (.int (f0_3 p1 p2 p3 p4 p5 p6))]) rfl ?_
    show Steps p.tables e below (T17.setTop (mkF m 103 #[.val (.int p1), .val (.int p2), .val (.int p3), .val (.int p4), .val (.int p5), .val (.int p6), .val (.ref o1), .val (.ref o3), .val (.ref r5), .val (.int (f0_2 p1 p2 p3 p4 p5 p6)), .val (.int (f0_3 p1 p2 p3 p4 p5 p6))] [])) _
    refine XS.iload X17.here hx rfl (hb hby at_103) rfl ?_
    show Steps p.tables e below (T17.setTop (mkF m 105 #[.val (.int p1), .val (.int p2), .val (.int p3), .val (.int p4), .val (.int p5), .val (.int p6), .val (.ref o1), .val (.ref o3), .val (.ref r5), .val (.int (f0_2 p1 p2 p3 p4 p5 p6)), .val (.int (f0_3 p1 p2 p3 p4 p5 p6))] [(.int (f0_2 p1 p2 p3 p4 p5 p6))])) _
    refine st23 _ ?_
    show Steps p.tables e below (T17.setTop (mkF m 118 #[.val (.int p1), .val (.int p2), .val (.int p3), .val (.int p4), .val (.int p5), .val (.int p6), .val (.ref o1), .val (.ref o3), .val (.ref r5), .val (.int (f0_2 p1 p2 p3 p4 p5 p6)), .val (.int (f0_3 p1 p2 p3 p4 p5 p6))] [(.int (f0_5 p1 p2 p3 p4 p5 p6))])) _
    exact retN X17 hx (t := .boolean) Bd.returns (by simp) (hb hby at_118) hr
  · show Q0 Z p1 p2 p3 p4 p5 p6 h0 n0 _ T17.heap _
    rw [e17]
    exact ⟨congrArg (fun z => some (Value.int z)) ((show f0 p1 p2 p3 p4 p5 p6 = ((f0_5 p1 p2 p3 p4 p5 p6) &&& 1) from by rfl).symm.trans (own_law p1 p2 p3 p4 p5 p6)), N17⟩
set_option maxRecDepth 65536 in
set_option maxHeartbeats 40000000 in
theorem comes_1 {Post : Tables → Env → Array Value → State → Outcome → State → Prop} (hpost : ∀ tb e args s v u, (limb_1_1.after args s (.returned v) u = true ∧ limb_1_2.after args s (.returned v) u = true ∧ True) → FrameEnd s (.returned v) u (Jvm.fieldLocs frame_1_writes args s ++ Jvm.arrayLocs frame_1_arrays args s ++ Jvm.staticLocs frame_1_statics s) 16 128 → Post tb e args s (.returned v) u) :
    ArmFor flags0 classFile x code maxLocals ret World_1 tables_1 room_1 Calls_1 rest_1 Pre_1 Post := by
  intro l hfl _ _ p e ha hc hk s m args below hf hA hF happ hP
  obtain ⟨hcalls, hrest, hpre⟩ := hP
  obtain ⟨-, -, -, hnamed, -, -, -, hat⟩ := (Spec.applies_iff hf).mp happ
  obtain ⟨hg, hn⟩ := and_e (Cond.before_iff.mp (show (Jvm.Cond.and given_1 narrow_1).before args s = true from hpre))
  obtain ⟨hcnt, hg0⟩ := and_e hg
  obtain ⟨hi0, hg1⟩ := and_e hg0
  obtain ⟨hi1, hg2⟩ := and_e hg1
  obtain ⟨hi2, hg3⟩ := and_e hg2
  obtain ⟨hi3, hg4⟩ := and_e hg3
  obtain ⟨hi4, hg5⟩ := and_e hg4
  obtain ⟨w0, w1, w2, w3, w4, w5, rfl⟩ : ∃ w0 w1 w2 w3 w4 w5 : Value, args = #[w0, w1, w2, w3, w4, w5] := by
    have hs : args.size = 6 := by simpa [Cond.value, given_1] using hcnt
    obtain ⟨L⟩ := args
    match L, hs with
    | [w0, w1, w2, w3, w4, w5], _ => exact ⟨w0, w1, w2, w3, w4, w5, rfl⟩
  have hw := fun d (hd : d ∈ tables_1) => atoms_spec (ws := Jvm.Cond.code x code maxLocals ret :: tables_1) hat d (List.mem_cons_of_mem _ hd)
  have hfit : Fit s := fun {y c} hc i hi => by
    obtain ⟨ha, rfl⟩ := Array.getElem?_eq_some_iff.mp hc
    have q := List.all_eq_true.mp ((Array.all_eq_true_iff_forall_mem.mp hF) _ (Array.getElem_mem ha)) i (List.mem_range.mpr hi)
    simpa [Array.getElem?_eq_getElem hi] using q
  obtain ⟨i0, ei0⟩ := is_v hi0
  obtain rfl : w0 = (.int i0) := Option.some.inj ei0
  obtain ⟨i1, ei1⟩ := is_v hi1
  obtain rfl : w1 = (.int i1) := Option.some.inj ei1
  obtain ⟨i2, ei2⟩ := is_v hi2
  obtain rfl : w2 = (.int i2) := Option.some.inj ei2
  obtain ⟨i3, ei3⟩ := is_v hi3
  obtain rfl : w3 = (.int i3) := Option.some.inj ei3
  obtain ⟨i4, ei4⟩ := is_v hi4
  obtain rfl : w4 = (.int i4) := Option.some.inj ei4
  obtain ⟨i5, ei5⟩ := is_v hg5
  obtain rfl : w5 = (.int i5) := Option.some.inj ei5
  obtain ⟨n, o, h1, h2, h3, _, L, rfl, ⟨rfl, N⟩, hq⟩ := rm0 l s _ hw tables_1 i0 i1 i2 i3 i4 i5 s.heap s.heap.size (Nat.le_refl _) p e ha hc hk s m _ below hf ((Spec.applies_iff_loose hf).mp happ).1 ⟨rfl, State.Warmed39.refl s, rfl⟩ trivial
  refine ⟨n, _, h1, h2, h3, hpost _ _ _ _ _ _ ⟨Cond.after_iff.mpr rfl, Cond.after_iff.mpr (eq_i res_at (Term.int_eval (1)) rfl), trivial⟩ ⟨hq.1, hq.2.1, (hq.2.2.sift fun y hy => Or.inr (N y hy)).mono (by decide) (by decide)⟩⟩
theorem main_1_1 : Claimed_1_1 := comes_1 fun _ _ _ _ _ _ h hF => ⟨h.1, hF⟩
theorem main_1_2 : Claimed_1_2 := comes_1 fun _ _ _ _ _ _ h hF => ⟨h.2.1, hF⟩
end Jvm.Pilot.@@N@@
namespace Jvm.Pilot.@@N@@
open Jvm Jvm.ClassFile Sem Op Lib Jvm.Free Jvm.Stand Jvm.Pilot.@@N@@.Jvm.D
/-! MADE BY PROGRAM (witnessworld.py) out of the Statement's table words and the real class files: 9 classes; the members and pool entries that the words name. The judged class is class 1, her method 1. -/
namespace start1
open Jvm.ClassFile
def u (s : String) : CpInfo := .utf8 (stringToUtf16 s)
/-- a pool by its gaps: so many unusable entries, then the entry; so many at the end -/
def gap : Nat → List CpInfo → List CpInfo
  | 0, r => r
  | n + 1, r => .unusable :: gap n r
def poolList (es : List (Nat × CpInfo)) (last : Nat) : List CpInfo := es.foldr (fun e r => gap e.1 (e.2 :: r)) (gap last [])
def pool (es : List (Nat × CpInfo)) (last : Nat) : Array CpInfo := ⟨poolList es last⟩
def fileOf (pool : Array CpInfo) (this : Nat) (attrs : Array Attribute := #[]) (ms : Array MethodInfo := #[]) (fl : Nat := 33) (sup : Nat := 0) (ifs : Array Nat := #[]) (fds : Array FieldInfo := #[]) : ClassFile where
  minorVersion := 0
  majorVersion := 65
  constantPool := pool
  accessFlags := fl
  thisClass := this
  superClass := sup
  interfaces := ifs
  fields := fds
  methods := ms
  attributes := attrs
def plain (name : String) (sup : Option ClassId) : Class where
  name := name
  kind := .ordinary
  loader := none
  accessFlags := 33
  super := sup
  interfaces := #[]
  cf := none
  fields := #[]
  methods := #[]
  instanceTypes := #[]
  staticTypes := #[]
  resolved := #[]
  callSites := []
  init := .initialized
  statics := none
  mirror := none

def pool0 : Array CpInfo := pool [(5, u "<init>"), (0, u "()V"), (1, .class_ 10), (1, u "java/lang/Object")] 113

def k0c0 : Code := { maxStack := 0, maxLocals := 1, code := object_method_1_code, exceptionTable := #[], attributes := #[] }
def k0m0 : Method := { name := "<init>", desc := "()V", sig := { parameters := [], returnType := none }, accessFlags := 1, code := some k0c0 }
/-- java/lang/Object -/
def k0 : Class := { plain "java/lang/Object" none with
  accessFlags := 33
  interfaces := #[]
  cf := some (fileOf pool0 8 #[] #[{ accessFlags := 1, nameIndex := 5, descriptorIndex := 6, attributes := #[] }] 33 0 #[] #[])
  fields := #[]
  methods := #[k0m0]
  instanceTypes := #[]
  staticTypes := #[]
  resolved := Array.replicate 124 none
  statics := none }

def pool1 : Array CpInfo := pool [(2, .class_ 4), (1, u "java/lang/Object"), (0, u "<init>"), (0, u "()V"), (0, .class_ 8), (0, u "com/example/hitotabi/hitotabi/RelayTick"), (0, .methodref 7 10), (0, .nameAndType 5 11), (0, u "(III)V"), (0, .methodref 7 13), (0, .nameAndType 14 15), (0, u "plus"), (0, u "(Lcom/example/hitotabi/hitotabi/RelayTick;)Lcom/example/hitotabi/hitotabi/RelayTick;"), (0, .methodref 7 17), (0, .nameAndType 18 19), (0, u "claimed"), (0, u "()I"), (0, .methodref 7 21), (0, .nameAndType 22 19), (0, u "sent"), (0, .methodref 7 24), (0, .nameAndType 25 19), (0, u "failed"), (0, .methodref 7 27), (0, .nameAndType 28 19), (0, u "lost"), (0, .class_ 30), (0, u "com/example/hitotabi/hitotabi/RelayTickPlusPinLaw"), (2, u "law"), (0, u "(IIIIII)Z")] 3

def k1m0 : Method := { name := "<init>", desc := "()V", sig := { parameters := [], returnType := none }, accessFlags := 1, code := none }
def k1c1 : Code := { maxStack := 5, maxLocals := 11, code := code, exceptionTable := #[], attributes := #[] }
def k1m1 : Method := { name := "law", desc := "(IIIIII)Z", sig := { parameters := [.int, .int, .int, .int, .int, .int], returnType := some .boolean }, accessFlags := 9, code := some k1c1 }
/-- com/example/hitotabi/hitotabi/RelayTickPlusPinLaw -/
def k1 : Class := { plain "com/example/hitotabi/hitotabi/RelayTickPlusPinLaw" (some 0) with
  accessFlags := 49
  interfaces := #[]
  cf := some (fileOf pool1 29 #[] #[{ accessFlags := 1, nameIndex := 5, descriptorIndex := 6, attributes := #[] }, { accessFlags := 9, nameIndex := 33, descriptorIndex := 34, attributes := #[] }] 49 2 #[] #[])
  fields := #[]
  methods := #[k1m0, k1m1]
  instanceTypes := #[]
  staticTypes := #[]
  resolved := Array.replicate 38 none
  statics := none }

def pool2 : Array CpInfo := pool [(1, .methodref 2 3), (0, .class_ 4), (0, .nameAndType 5 6), (0, u "java/lang/Object"), (0, u "<init>"), (0, u "()V"), (0, .fieldref 8 9), (0, .class_ 10), (0, .nameAndType 11 12), (0, u "com/example/hitotabi/hitotabi/RelayTick"), (0, u "claimed"), (0, u "I"), (0, .fieldref 8 14), (0, .nameAndType 15 12), (0, u "sent"), (0, .fieldref 8 17), (0, .nameAndType 18 12), (0, u "failed"), (0, .methodref 8 20), (0, .nameAndType 5 21), (0, u "(III)V"), (2, u "lost"), (0, u "()I"), (6, u "NONE"), (0, u "Lcom/example/hitotabi/hitotabi/RelayTick;"), (2, u "plus"), (0, u "(Lcom/example/hitotabi/hitotabi/RelayTick;)Lcom/example/hitotabi/hitotabi/RelayTick;")] 20

def k2c0 : Code := { maxStack := 2, maxLocals := 4, code := prog_28_method_1_code, exceptionTable := #[], attributes := #[] }
def k2m0 : Method := { name := "<init>", desc := "(III)V", sig := { parameters := [.int, .int, .int], returnType := none }, accessFlags := 0, code := some k2c0 }
def k2c1 : Code := { maxStack := 1, maxLocals := 1, code := prog_28_method_2_code, exceptionTable := #[], attributes := #[] }
def k2m1 : Method := { name := "claimed", desc := "()I", sig := { parameters := [], returnType := some .int }, accessFlags := 1, code := some k2c1 }
def k2c2 : Code := { maxStack := 1, maxLocals := 1, code := prog_28_method_3_code, exceptionTable := #[], attributes := #[] }
def k2m2 : Method := { name := "sent", desc := "()I", sig := { parameters := [], returnType := some .int }, accessFlags := 1, code := some k2c2 }
def k2c3 : Code := { maxStack := 1, maxLocals := 1, code := prog_28_method_4_code, exceptionTable := #[], attributes := #[] }
def k2m3 : Method := { name := "failed", desc := "()I", sig := { parameters := [], returnType := some .int }, accessFlags := 1, code := some k2c3 }
def k2c4 : Code := { maxStack := 2, maxLocals := 1, code := prog_28_method_5_code, exceptionTable := #[], attributes := #[] }
def k2m4 : Method := { name := "lost", desc := "()I", sig := { parameters := [], returnType := some .int }, accessFlags := 1, code := some k2c4 }
def k2c5 : Code := { maxStack := 6, maxLocals := 2, code := prog_28_method_6_code, exceptionTable := #[], attributes := #[] }
def k2m5 : Method := { name := "plus", desc := "(Lcom/example/hitotabi/hitotabi/RelayTick;)Lcom/example/hitotabi/hitotabi/RelayTick;", sig := { parameters := [(.object "com/example/hitotabi/hitotabi/RelayTick")], returnType := some (.object "com/example/hitotabi/hitotabi/RelayTick") }, accessFlags := 0, code := some k2c5 }
/-- com/example/hitotabi/hitotabi/RelayTick -/
def k2 : Class := { plain "com/example/hitotabi/hitotabi/RelayTick" (some 0) with
  accessFlags := 49
  interfaces := #[]
  cf := some (fileOf pool2 8 #[] #[{ accessFlags := 0, nameIndex := 5, descriptorIndex := 21, attributes := #[] }, { accessFlags := 1, nameIndex := 11, descriptorIndex := 25, attributes := #[] }, { accessFlags := 1, nameIndex := 15, descriptorIndex := 25, attributes := #[] }, { accessFlags := 1, nameIndex := 18, descriptorIndex := 25, attributes := #[] }, { accessFlags := 1, nameIndex := 24, descriptorIndex := 25, attributes := #[] }, { accessFlags := 0, nameIndex := 36, descriptorIndex := 37, attributes := #[] }] 49 2 #[] #[{ accessFlags := 24, nameIndex := 32, descriptorIndex := 33, attributes := #[] }, { accessFlags := 18, nameIndex := 11, descriptorIndex := 12, attributes := #[] }, { accessFlags := 18, nameIndex := 15, descriptorIndex := 12, attributes := #[] }, { accessFlags := 18, nameIndex := 18, descriptorIndex := 12, attributes := #[] }])
  fields := #[{ name := "NONE", type := (.object "com/example/hitotabi/hitotabi/RelayTick"), accessFlags := 24, slot := 0, constantValue := 0 }, { name := "claimed", type := .int, accessFlags := 18, slot := 0, constantValue := 0 }, { name := "sent", type := .int, accessFlags := 18, slot := 1, constantValue := 0 }, { name := "failed", type := .int, accessFlags := 18, slot := 2, constantValue := 0 }]
  methods := #[k2m0, k2m1, k2m2, k2m3, k2m4, k2m5]
  instanceTypes := #[.int, .int, .int]
  staticTypes := #[(.object "com/example/hitotabi/hitotabi/RelayTick")]
  resolved := Array.replicate 58 none
  statics := none }

def pool3 : Array CpInfo := pool [(1, u "java/lang/Cloneable"), (0, .class_ 1), (0, u "java/lang/Object"), (0, .class_ 3)] 3

/-- java/lang/Cloneable -/
def k3 : Class := { plain "java/lang/Cloneable" (some 0) with
  accessFlags := 1537
  interfaces := #[]
  cf := some (fileOf pool3 2 #[] #[] 1537 4 #[] #[])
  fields := #[]
  methods := #[]
  instanceTypes := #[]
  staticTypes := #[]
  resolved := Array.replicate 8 none
  statics := none }

def pool4 : Array CpInfo := pool [(1, u "java/io/Serializable"), (0, .class_ 1), (0, u "java/lang/Object"), (0, .class_ 3)] 3

/-- java/io/Serializable -/
def k4 : Class := { plain "java/io/Serializable" (some 0) with
  accessFlags := 1537
  interfaces := #[]
  cf := some (fileOf pool4 2 #[] #[] 1537 4 #[] #[])
  fields := #[]
  methods := #[]
  instanceTypes := #[]
  staticTypes := #[]
  resolved := Array.replicate 8 none
  statics := none }

/-- the primitive byte -/
def k5 : Class := { plain "byte" none with kind := .primitive 'B', accessFlags := 0x411 }
/-- [B -/
def k6 : Class := { plain "[B" (some 0) with kind := .array 5 .byte, interfaces := #[3, 4], accessFlags := 1041 }

/-- the primitive int -/
def k7 : Class := { plain "int" none with kind := .primitive 'I', accessFlags := 0x411 }
/-- [I -/
def k8 : Class := { plain "[I" (some 0) with kind := .array 7 .int, interfaces := #[3, 4], accessFlags := 1041 }

def heap : Heap := #[]
def classes : Array Class := #[k0, k1, k2, k3, k4, k5, k6, k7, k8]
def interned : List (Array UInt16 × Addr) := []
def slotsUsed : Nat := 0
def theMethod : MethodId := ⟨1, 1⟩
def args0 : Array Value := #[.int 0, .int 1, .int 2, .int 3, .int 4, .int 5]
def aboutOver (below : List Frame) : State where
  vm := { classes := classes, interned := interned.toArray }
  heap := heap
  slotsUsed := slotsUsed
  threads := #[{ frames := .invoking theMethod args0 :: below }]
def below0 : List Frame := [.native { method := ⟨0, 0⟩, args := #[] }]
def about1 : State := aboutOver below0
def p0 : Program := .bare "" "" ""
def e0 : Env := launch0.env 0 0 0
theorem w_frames : about1.frames = Frame.invoking theMethod args0 :: below0 := rfl
set_option maxRecDepth 65536 in
theorem w_args : argsFit about1.vm theMethod args0 = true := by decide +kernel
set_option maxRecDepth 65536 in
theorem w_heap : heapFits about1 = true := by decide +kernel
set_option maxRecDepth 65536 in
theorem w_runnable : about1.curStatus? = some .runnable := by decide +kernel
set_option maxRecDepth 65536 in
theorem w_alone : about1.alone = true := by decide +kernel
set_option maxRecDepth 65536 in
theorem w_named : about1.methodNamed? x = some theMethod := by decide +kernel
set_option maxRecDepth 65536 in
theorem w_hears : about1.hears theMethod below0 = true := by decide +kernel
set_option maxRecDepth 65536 in
theorem w_ripe : about1.ripe theMethod args0 below0 = true := by decide +kernel
theorem w_running : about1.status = .running := rfl
set_option maxRecDepth 65536 in
theorem w_room : about1.hasRoom e0.platform room_1 = true :=
  launch0.hasRoom_least _ room_1 (by decide +kernel) (by decide +kernel) (by decide +kernel) (by decide +kernel) (by decide +kernel) (by decide +kernel)
theorem allAtoms_all (ts : List Jvm.Cond) (a : Array Jvm.Value) (st : Jvm.State) : (allAtoms ts).before a st = ts.all (fun c => c.before a st) := by
  induction ts with
  | nil => rfl
  | cons c t ih =>
    show (Jvm.Cond.and c (allAtoms t)).before a st = _
    rw [Jvm.Cond.before_and, ih, List.all_cons]
def words1 : List Jvm.Cond := Jvm.Cond.code x code maxLocals ret :: tables_1
/-- a 'code' word, met by the world's own term for the bytes: nothing is compared byte by byte -/
theorem code_word {y : MethodName} {bytes : ByteArray} {mx : Nat} {rt : Option FieldType} {a : Array Value} {s : State} {m : MethodId} {meth : Method} {c : Code} (h1 : s.methodNamed? y = some m) (h2 : s.vm.method? m = some meth) (h3 : meth.code = some c) (h4 : c.code = bytes)
    (h5 : (c.maxLocals == mx && c.exceptionTable.isEmpty && decide (c.maxStack ≤ mostOperands) && decide (meth.sig.returnType = rt) && !meth.locks && decide (parseMethodDescriptor y.desc = some meth.sig)) = true) : (Jvm.Cond.code y bytes mx rt).before a s = true := by
  simp only [Bool.and_eq_true, beq_iff_eq, Bool.not_eq_true', decide_eq_true_eq] at h5
  obtain ⟨⟨⟨⟨⟨g1, g2⟩, g3⟩, g4⟩, g5⟩, g6⟩ := h5
  simp [Cond.before, Cond.holds, Cond.value, h1, h2, h3, h4, g1, g2, g3, g4, g5, g6]
def isCode : Jvm.Cond → Bool
  | .code _ _ _ _ => true
  | _ => false
theorem all_split {L : List Jvm.Cond} {P : Jvm.Cond → Bool} (h1 : L.all (fun c => isCode c || P c) = true) (h2 : ∀ c ∈ L.filter isCode, P c = true) : L.all P = true := by
  refine List.all_eq_true.mpr fun c hc => ?_
  have h := List.all_eq_true.mp h1 c hc
  rcases Bool.eq_false_or_eq_true (isCode c) with hi | hi
  · exact h2 c (List.mem_filter.mpr ⟨hc, hi⟩)
  · simpa [hi] using h
set_option maxRecDepth 65536 in
theorem w_c0 : (Jvm.Cond.code x code maxLocals ret).before args0 about1 = true := code_word (m := ⟨1, 1⟩) (meth := k1m1) (c := k1c1) (by decide +kernel) rfl rfl rfl (by decide +kernel)
set_option maxRecDepth 65536 in
theorem w_c1 : (Jvm.Cond.code ({ cls := "com/example/hitotabi/hitotabi/RelayTick", name := "<init>", desc := "(III)V" } : Jvm.MethodName) prog_28_method_1_code (4 : Nat) (Option.none : Option Jvm.ClassFile.FieldType)).before args0 about1 = true := code_word (m := ⟨2, 0⟩) (meth := k2m0) (c := k2c0) (by decide +kernel) rfl rfl rfl (by decide +kernel)
set_option maxRecDepth 65536 in
theorem w_c2 : (Jvm.Cond.code ({ cls := "java/lang/Object", name := "<init>", desc := "()V" } : Jvm.MethodName) object_method_1_code (1 : Nat) (Option.none : Option Jvm.ClassFile.FieldType)).before args0 about1 = true := code_word (m := ⟨0, 0⟩) (meth := k0m0) (c := k0c0) (by decide +kernel) rfl rfl rfl (by decide +kernel)
set_option maxRecDepth 65536 in
theorem w_c3 : (Jvm.Cond.code ({ cls := "com/example/hitotabi/hitotabi/RelayTick", name := "plus", desc := "(Lcom/example/hitotabi/hitotabi/RelayTick;)Lcom/example/hitotabi/hitotabi/RelayTick;" } : Jvm.MethodName) prog_28_method_6_code (2 : Nat) (Option.some (Jvm.ClassFile.FieldType.object "com/example/hitotabi/hitotabi/RelayTick"))).before args0 about1 = true := code_word (m := ⟨2, 5⟩) (meth := k2m5) (c := k2c5) (by decide +kernel) rfl rfl rfl (by decide +kernel)
set_option maxRecDepth 65536 in
theorem w_c4 : (Jvm.Cond.code ({ cls := "com/example/hitotabi/hitotabi/RelayTick", name := "claimed", desc := "()I" } : Jvm.MethodName) prog_28_method_2_code (1 : Nat) (Option.some Jvm.ClassFile.FieldType.int)).before args0 about1 = true := code_word (m := ⟨2, 1⟩) (meth := k2m1) (c := k2c1) (by decide +kernel) rfl rfl rfl (by decide +kernel)
set_option maxRecDepth 65536 in
theorem w_c5 : (Jvm.Cond.code ({ cls := "com/example/hitotabi/hitotabi/RelayTick", name := "sent", desc := "()I" } : Jvm.MethodName) prog_28_method_3_code (1 : Nat) (Option.some Jvm.ClassFile.FieldType.int)).before args0 about1 = true := code_word (m := ⟨2, 2⟩) (meth := k2m2) (c := k2c2) (by decide +kernel) rfl rfl rfl (by decide +kernel)
set_option maxRecDepth 65536 in
theorem w_c6 : (Jvm.Cond.code ({ cls := "com/example/hitotabi/hitotabi/RelayTick", name := "failed", desc := "()I" } : Jvm.MethodName) prog_28_method_4_code (1 : Nat) (Option.some Jvm.ClassFile.FieldType.int)).before args0 about1 = true := code_word (m := ⟨2, 3⟩) (meth := k2m3) (c := k2c3) (by decide +kernel) rfl rfl rfl (by decide +kernel)
set_option maxRecDepth 65536 in
theorem w_c7 : (Jvm.Cond.code ({ cls := "com/example/hitotabi/hitotabi/RelayTick", name := "lost", desc := "()I" } : Jvm.MethodName) prog_28_method_5_code (1 : Nat) (Option.some Jvm.ClassFile.FieldType.int)).before args0 about1 = true := code_word (m := ⟨2, 4⟩) (meth := k2m4) (c := k2c4) (by decide +kernel) rfl rfl rfl (by decide +kernel)
def codes1 : List Jvm.Cond := [Jvm.Cond.code x code maxLocals ret, Jvm.Cond.code ({ cls := "com/example/hitotabi/hitotabi/RelayTick", name := "<init>", desc := "(III)V" } : Jvm.MethodName) prog_28_method_1_code (4 : Nat) (Option.none : Option Jvm.ClassFile.FieldType), Jvm.Cond.code ({ cls := "java/lang/Object", name := "<init>", desc := "()V" } : Jvm.MethodName) object_method_1_code (1 : Nat) (Option.none : Option Jvm.ClassFile.FieldType), Jvm.Cond.code ({ cls := "com/example/hitotabi/hitotabi/RelayTick", name := "plus", desc := "(Lcom/example/hitotabi/hitotabi/RelayTick;)Lcom/example/hitotabi/hitotabi/RelayTick;" } : Jvm.MethodName) prog_28_method_6_code (2 : Nat) (Option.some (Jvm.ClassFile.FieldType.object "com/example/hitotabi/hitotabi/RelayTick")), Jvm.Cond.code ({ cls := "com/example/hitotabi/hitotabi/RelayTick", name := "claimed", desc := "()I" } : Jvm.MethodName) prog_28_method_2_code (1 : Nat) (Option.some Jvm.ClassFile.FieldType.int), Jvm.Cond.code ({ cls := "com/example/hitotabi/hitotabi/RelayTick", name := "sent", desc := "()I" } : Jvm.MethodName) prog_28_method_3_code (1 : Nat) (Option.some Jvm.ClassFile.FieldType.int), Jvm.Cond.code ({ cls := "com/example/hitotabi/hitotabi/RelayTick", name := "failed", desc := "()I" } : Jvm.MethodName) prog_28_method_4_code (1 : Nat) (Option.some Jvm.ClassFile.FieldType.int), Jvm.Cond.code ({ cls := "com/example/hitotabi/hitotabi/RelayTick", name := "lost", desc := "()I" } : Jvm.MethodName) prog_28_method_5_code (1 : Nat) (Option.some Jvm.ClassFile.FieldType.int)]
set_option maxRecDepth 65536 in
theorem codes_eq : words1.filter isCode = codes1 := rfl
theorem w_codes : ∀ c ∈ words1.filter isCode, c.before args0 about1 = true := by
  rw [codes_eq]
  intro c hc
  simp only [codes1, List.mem_cons, List.not_mem_nil, or_false] at hc
  rcases hc with rfl | rfl | rfl | rfl | rfl | rfl | rfl | rfl
  · exact w_c0
  · exact w_c1
  · exact w_c2
  · exact w_c3
  · exact w_c4
  · exact w_c5
  · exact w_c6
  · exact w_c7
set_option maxRecDepth 65536 in
theorem w_t1 : (words1.take 24).all (fun c => isCode c || c.before args0 about1) = true := by decide +kernel
set_option maxRecDepth 65536 in
theorem w_t2 : (words1.drop 24).all (fun c => isCode c || c.before args0 about1) = true := by decide +kernel
theorem w_tables : (allAtoms (Jvm.Cond.code x code maxLocals ret :: tables_1)).before args0 about1 = true := by
  rw [allAtoms_all]
  show words1.all (fun c => c.before args0 about1) = true
  refine all_split ?_ w_codes
  rw [← List.take_append_drop 24 words1, List.all_append, w_t1, w_t2]
  rfl
set_option maxRecDepth 65536 in
theorem w_case : (Jvm.Cond.and given_1 narrow_1).before args0 about1 = true := by decide +kernel
theorem w_applies : (headSpec (Jvm.Cond.code x code maxLocals ret :: tables_1) room_1).applies x e0.platform about1 = true :=
  (Spec.applies_iff w_frames).mpr ⟨w_running, w_runnable, w_alone, w_named, w_hears, w_ripe, w_room, w_tables⟩
theorem atStart : AtStart classFile x code maxLocals ret World_1 tables_1 room_1 Calls_1 rest_1 Pre_1 launch0 p0 e0 about1 theMethod args0 below0 :=
  ⟨lists_1, trivial, launch0.admits_env _ _ _, launch0.least_env, fairChoices_fair.cas, fairChoices_fair.clock, w_frames, w_args, w_heap, w_applies, trivial, trivial, w_case⟩
end start1
theorem witness_1 : WitnessClaimed_1 := ⟨start1.p0, start1.e0, start1.about1, start1.theMethod, start1.args0, start1.below0, start1.atStart⟩
end Jvm.Pilot.@@N@@
