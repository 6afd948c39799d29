import JvmDerived
import JvmDerived.Pilot.@@N@@Statement
import JvmDerived.Pilot.@@N@@Code
set_option linter.unusedVariables false
set_option linter.unusedSimpArgs false
namespace Jvm.RoadKit
open Sem ClassFile Op Lib Jvm.Stand Jvm.Free Jvm.LawKit
section New
variable {p : Program} {l : Launch} {e : Env} {R : Room} {s : State} {m : MethodId} {args : Array Value} {below : List Frame} {meth : Method} {c : Code} {T : State} {locs : List Loc} {cells slots : Nat}
theorem retI (X : Stand p l e R s m args below meth c T locs cells slots) (hx : p.tables.exec = Jvm.exec) {pc : Nat} {Ls : Array Slot} {z : Int32} {rest : List Value} (hret : meth.sig.returnType = some .int) (hd : decode c.code pc = .ok (.ireturn, 1)) {fs : List Frame}
    (hl : ∀ (f : JFrame) (acts : List Action), f.method = m → f.locked = none → f.entered = [] → (doReturn e (T.setTop f) acts (some (.int z))).1 = T.setFrames fs) : Steps p.tables e below (T.setTop (mkF m pc Ls (.int z :: rest))) (T.setFrames fs) := by
  have hm' : T.vm.method? m = some meth := X.method'
  have hn : narrow .int (.int z) = .int z := rfl
  show Steps p.tables e below (T.setTop { method := m, pc := pc, locals := Ls, stack := _ :: rest, locked := none }) _
  jvm_step X.here [X.here.top, hx, hd, hm', hret, hn]
  first | (intro acts; rw [hl _ acts rfl rfl rfl]) | rw [hl _ _ rfl rfl rfl]
  exact Steps.refl _
end New
end Jvm.RoadKit
namespace Jvm.RoadKit
open Sem ClassFile Op Lib Jvm.Stand Jvm.Free Jvm.LawKit
section OwnRef
variable {p : Program} {l : Launch} {e : Env} {R : Room} {s : State} {m : MethodId} {args : Array Value} {below : List Frame} {meth : Method} {c : Code} {T : State} {locs : List Loc} {cells slots : Nat} {Z : State} {a0 : Array Value}
theorem own_mready {vm : Vm} (h : Z.Warmed39 vm) {cur i : Nat} {mi : MethodId} (r : Z.vm.methodReady cur i mi) : vm.methodReady cur i mi := by
  obtain ⟨k, hk, hr⟩ := r
  obtain ⟨k', hk', -, -, hi, -⟩ := h.2.2.2 cur k hk
  rcases hi i with q | ⟨q, -⟩
  · exact ⟨k', hk', q.trans hr⟩
  · rw [hr] at q; cases q
theorem own_nready {vm : Vm} (h : Z.Warmed39 vm) {cur i : Nat} {c' : ClassId} (r : namesResolved Z.vm cur i c') : namesResolved vm cur i c' := by
  obtain ⟨k, cf, ci, n, hk, hcf, hp, k2, hk2, hr⟩ := r
  cases hk.symm.trans hk2
  obtain ⟨k', hk', he, -, hi, -⟩ := h.2.2.2 cur k hk
  refine ⟨k', cf, ci, n, hk', by rw [he]; exact hcf, hp, k', hk', ?_⟩
  rcases hi ci with q | ⟨q, -⟩
  · exact q.trans hr
  · rw [hr] at q; cases q
theorem own_specialRef (X : Stand p l e R s m args below meth c T locs cells slots) (hexec : p.tables.exec = Jvm.exec) (hZ : Z.Warmed39 s.vm) {own : String} {index : Nat} {y : MethodName} (hy1 : y.name = "<init>")
    (hown : s.vm.findClass own = some m.cls) (href : (Cond.methodRef own index y).before a0 Z = true) (hinst : (Cond.instanceMethod y).before a0 Z = true)
    (hy : y.cls ≠ "java/lang/invoke/MethodHandle" ∧ y.cls ≠ "java/lang/invoke/VarHandle")
    {W : Nat} {Pre : Pt → Array Value → Prop} {Post : Pt → Array Value → Option Value → Pt → Prop} (hK : Back l R p e below s args y 3 W Pre Post)
    {g : JFrame} (hg : g.method = m) (hsize : g.locals.size = c.maxLocals) {a : Addr} {argsL rest : List Value}
    (hlen : ∀ sig, parseMethodDescriptor y.desc = some sig → argsL.length = sig.parameters.length) (hstack : g.stack = argsL.reverse ++ .ref a :: rest) (hW : 2 * g.monitorRoom + (rest.map fun v => v.category).sum ≤ W)
    (hdg : decode c.code g.pc = .ok (.invokespecial index, 3)) (hcode : ∃ bytes maxL, (Cond.code y bytes maxL none).before a0 Z = true) (hpre : Pre ⟨T, locs, cells, slots⟩ (.ref a :: argsL).toArray) :
    ∃ (v : Option Value) (B : Pt), Stand p l e R s m args below meth c B.U B.locs B.cells B.slots ∧ Post ⟨T, locs, cells, slots⟩ (.ref a :: argsL).toArray v B ∧
      Steps p.tables e below (T.setTop g) (B.U.setTop { g with pc := g.pc + 3, stack := v.toList ++ rest }) := by
  subst hg
  have hZT : Z.Warmed39 T.vm := wtrans hZ X.warmed
  have hownZ : Z.vm.findClass own = some g.method.cls := by rw [← hZ.alike.findClass]; exact hown
  obtain ⟨r, c', hf, hready, hfind, hnamed⟩ := Cond.methodRef_named e hownZ href
  obtain ⟨obj, methO, hnO, hmO, hstO, habO⟩ := Cond.instanceMethod_spec hinst
  obtain ⟨bytes, maxL, hc⟩ := hcode
  obtain ⟨methO', cO, hmO', -, -, -, -, -, -, hsigO⟩ := Cond.code_spec hnO hc
  cases hmO.symm.trans hmO'
  have e1 : obj = r := Option.some.inj ((State.methodFound?_of_named hnO hy).symm.trans hf)
  subst e1
  have e2 : obj.cls = c' := Option.some.inj ((findClass_of_methodNamed hnO).symm.trans hfind)
  subst e2
  obtain ⟨hname, hdesc⟩ := name_of_methodNamed hnO hmO
  obtain ⟨kO, hkO, -⟩ := className_of_methodNamed hnO
  obtain ⟨kO', hkO', -⟩ := hZT.alike.2.2 _ _ hkO
  have hmT : T.vm.method? obj = some methO := by rw [hZT.alike.method?]; exact hmO
  have hfound : lookupSpecial T.vm obj.cls "<init>" methO.desc = .method obj := by
    rw [hZT.alike.lookupSpecial, hdesc, ← hy1]; exact lookupSpecial_of_named hnO hmO hstO
  have hnT : T.methodNamed? y = some obj := (show (Z.setVm T.vm).methodNamed? y = some obj from (State.methodNamed?_setVm hZT.alike y).trans hnO)
  obtain ⟨v, B, X', hpost, hsteps⟩ := hK g.method meth c ⟨T, locs, cells, slots⟩ { g with stack := rest } (.invokespecial index) obj (.ref a :: argsL).toArray X rfl hsize hdg hW hnT hpre
  refine ⟨v, B, X', hpost, Steps.trans ?_ hsteps⟩
  jvm_step X.here [hexec, hdg, invokespecial.wp_init (e := e) (s := T) (k := kO') (meth := methO) (m := obj) (a := a) (args := argsL) (rest := rest) (f := g)
      X.here.top (own_nready hZT hnamed) (own_mready hZT hready) hkO' hmT (by rw [hname]; exact hy1) hstO habO hfound (hlen _ hsigO) hstack]
  intro acts
  rw [doInvoke_state]
  exact Steps.refl _
end OwnRef
end Jvm.RoadKit
namespace Jvm.Pilot.@@N@@
open Jvm Jvm.ClassFile Sem Op Lib Jvm.Free Jvm.Stand Jvm.LawKit Jvm.RoadKit Bundle Jvm.Pilot.@@N@@.Jvm.D
def own_C (Z : State) : Prop := Sta Z Z.heap "java/lang/Integer$IntegerCache" "high" "I" (.int (127 : Int32)) ∧ ∀ p1 : Int32, ¬ (p1 < (-128 : Int32)) → ¬ ((127 : Int32) < p1) → ∃ (ca x : Addr) (kc : ClassId) (vs : List Value), Sta Z Z.heap "java/lang/Integer$IntegerCache" "cache" "[Ljava/lang/Integer;" (.ref ca) ∧ Arv Z Z.heap ca kc (.object "java/lang/Integer") (256 : Int32) vs .null ∧ vs.getD (p1 + (128 : Int32)).toNatClampNeg .null = .ref x ∧ Exa Z Z.heap x "java/lang/Integer" ∧ Fld Z Z.heap x "java/lang/Integer" "value" "I" (.int p1)
theorem own_j (p1 : Int32) (h1 : ¬ (p1 < (-128 : Int32))) (h2 : ¬ ((127 : Int32) < p1)) : ¬ (p1 + (128 : Int32)) < 0 ∧ (p1 + (128 : Int32)) < (256 : Int32) := by
  simp only [Int32.lt_iff_toInt_lt, Int32.toInt_add, show (-128 : Int32).toInt = -128 from by decide, show (127 : Int32).toInt = 127 from by decide, show (128 : Int32).toInt = 128 from by decide, show (256 : Int32).toInt = 256 from by decide, show (0 : Int32).toInt = 0 from by decide] at *
  rw [Int.bmod_def]
  omega
theorem own_back (p1 : Int32) : p1 + (128 : Int32) - (128 : Int32) = p1 := by
  rw [Int32.add_sub_cancel]
theorem own_static {args : Array Value} {first s : State} {C n d : String} {idx : List Nat} {v : Value} (h : (Term.static C n d).eval args first none [] s = some v) : (Term.static C n d).eval args first none idx s = some v := by
  simpa only [Term.eval] using h
theorem own_cache {args : Array Value} {s : State} (wi : (Jvm.Cond.initialized "java/lang/Integer$IntegerCache").before args s = true) (hsets : ∀ w ∈ jdkStatics_1, w.before args s = true) : own_C s := by
  have w3 := Cond.before_iff.mp (hsets _ (List.mem_of_getElem? (i := 3) rfl))
  have w4 := Cond.before_iff.mp (hsets _ (List.mem_of_getElem? (i := 4) rfl))
  have w5 := Cond.before_iff.mp (hsets _ (List.mem_of_getElem? (i := 5) rfl))
  have w6 := Cond.before_iff.mp (hsets _ (List.mem_of_getElem? (i := 6) rfl))
  have w7 := Cond.before_iff.mp (hsets _ (List.mem_of_getElem? (i := 7) rfl))
  have hhigh : Sta s s.heap "java/lang/Integer$IntegerCache" "high" "I" (.int (127 : Int32)) := by
    obtain ⟨a, b, ha, hb, k1, k2⟩ := cmp_v (Or.inl w3)
    cases (Term.int_eval (127 : Int32) (args := args) (first := s) (o := none) (idx := []) (s := s)).symm.trans hb
    obtain ⟨z, rfl⟩ := k2
    have e := gotT (Cond.eq_ints ha hb) w3
    subst e
    exact Sta.start ha (Or.inl (hsets _ (List.mem_of_getElem? (i := 1) rfl)))
  refine ⟨hhigh, fun p1 h1 h2 => ?_⟩
  obtain ⟨ca, ev⟩ := exa_v w5
  obtain ⟨cl, A⟩ := Arr.start ev w4
  have hS : Sta s s.heap "java/lang/Integer$IntegerCache" "cache" "[Ljava/lang/Integer;" (.ref ca) := Sta.start ev (Or.inr ⟨wi, hsets _ (List.mem_of_getElem? (i := 2) rfl)⟩)
  have harr : s.arrayAt? ca = some cl := A.fin (Vm.Alike.refl _)
  have hsz : cl.slots.size = 256 := by
    obtain ⟨a, b, ha, hb, k1, k2⟩ := cmp_v (Or.inl w6)
    cases (Term.int_eval (256 : Int32) (args := args) (first := s) (o := none) (idx := []) (s := s)).symm.trans hb
    obtain ⟨z, rfl⟩ := k2
    have e := gotT (Cond.eq_ints ha hb) w6
    subst e
    by_cases hl : cl.slots.size < 2 ^ 31
    · have q := (len_f ev harr hl).symm.trans ha
      have q2 : cl.slots.size.toInt32 = (256 : Int32) := by simpa using q
      have q3 := congrArg Int32.toInt q2
      rw [len_toInt hl] at q3
      have : (256 : Int32).toInt = 256 := by decide
      omega
    · exfalso
      simp only [Term.eval] at ha ev
      rw [ev] at ha
      simp [harr] at ha
      exact hl (by omega)
  have hall := Cond.all_elim ev harr w7
  have helem : ∀ (j : Int32), ¬ j < 0 → j < (256 : Int32) → ∃ x : Addr, cl.slots[j.toNatClampNeg]? = some (.ref x) ∧ Exa s s.heap x "java/lang/Integer" ∧ Fld s s.heap x "java/lang/Integer" "value" "I" (.int (j - (128 : Int32))) := by
    intro j hj0 hj1
    have hlt : j.toNatClampNeg < cl.slots.size := by
      rw [hsz]
      have e1 := len_toInt (back32 hj0).2
      rw [(back32 hj0).1] at e1
      have e2 : j.toInt < 256 := by rw [Int32.lt_iff_toInt_lt] at hj1; exact hj1
      omega
    obtain ⟨q1, q2⟩ := and_e (hall _ hlt)
    obtain ⟨x, evx⟩ := exa_v q1
    have hcell := (elem_in evx (own_static ev) (idx_at hj0) A.1).2
    refine ⟨x, hcell, exa_at evx q1, ?_⟩
    obtain ⟨a, b, ha, hb, k1, k2⟩ := cmp_v (Or.inl q2)
    have hb' : (Term.sub (Term.index 0) (Term.int (128 : Int32))).eval args s none [j.toNatClampNeg] s = some (.int (j - (128 : Int32))) := by
      simp [Term.eval, (back32 hj0).1, (back32 hj0).2]
    cases hb'.symm.trans hb
    obtain ⟨z, rfl⟩ := k2
    have e := gotT (Cond.eq_ints ha hb) q2
    subst e
    rw [fld_at evx] at ha
    exact Fld.start ha
  obtain ⟨x, c1, c2, c3⟩ := helem (p1 + (128 : Int32)) (own_j p1 h1 h2).1 (own_j p1 h1 h2).2
  rw [own_back] at c3
  have hH : Has cl cl.slots.toList .null := fun k hk => by
    rw [List.getD_eq_getElem?_getD, Array.getElem?_toList, Array.getElem?_eq_getElem hk]; rfl
  refine ⟨ca, x, cl.cls, cl.slots.toList, hS, ⟨cl, A, rfl, by rw [hsz]; decide, by decide, hH, fun i hi => ?_⟩, ?_, c2, c3⟩
  · have hi2 : i < 256 := hsz ▸ hi
    have hn0 : ¬ i.toInt32 < 0 := by
      rw [Int32.lt_iff_toInt_lt, len_toInt (by omega)]; show ¬ ((i : Int) < (0 : Int32).toInt); rw [show (0 : Int32).toInt = 0 from by decide]; omega
    obtain ⟨y, d1, -⟩ := helem i.toInt32 hn0 (by rw [Int32.lt_iff_toInt_lt, len_toInt (by omega)]; show ((i : Int) < (256 : Int32).toInt); rw [show (256 : Int32).toInt = 256 from by decide]; omega)
    have e3 : i.toInt32.toNatClampNeg = i := by
      have e1 := len_toInt (back32 hn0).2
      rw [(back32 hn0).1, len_toInt (by omega : i < 2 ^ 31)] at e1
      omega
    rw [e3] at d1
    rw [List.getD_eq_getElem?_getD, Array.getElem?_toList, d1]; rfl
  · rw [List.getD_eq_getElem?_getD, Array.getElem?_toList, c1]; rfl
def f5 (a1 : Addr) (u1 : Int32) : Int32 := u1
def f8 (a1 : Addr) (u1 : Int32) (b1 : Addr) (u2 : Int32) : Int32 := (if u1 < u2 then (1 : Int32) else (0 : Int32))
def f14 (a1 : Addr) (u1 : Int32) : Int32 := u1
def f0_0 (p1 : Int32) (p2 : Int32) (p3 : Int32) (p4 : Int32) (p5 : Int32) : Int32 := ((p1 &&& (2147483647 : Int32)) - ((p1 &&& (2147483647 : Int32)) / (3 : Int32)) * (3 : Int32))
theorem own_max (z : Int32) : 0 ≤ (z &&& (2147483647 : Int32)).toInt := by
  have h1 : (z &&& (2147483647 : Int32)).toBitVec.toNat = z.toBitVec.toNat % 2147483648 := by
    show (z.toBitVec &&& (2147483647 : Int32).toBitVec).toNat = _
    rw [BitVec.toNat_and, show (2147483647 : Int32).toBitVec.toNat = 2 ^ 31 - 1 from by decide, Nat.and_two_pow_sub_one_eq_mod]
  have h2 : (z &&& (2147483647 : Int32)).toInt = (z.toBitVec.toNat % 2147483648 : Nat) := by
    show (z &&& (2147483647 : Int32)).toBitVec.toInt = _
    rw [BitVec.toInt_eq_toNat_cond, h1, if_pos (by omega)]
  rw [h2]; omega
theorem own_m3 (p a b c d : Int32) : f0_0 p a b c d = 0 ∨ f0_0 p a b c d = 1 ∨ f0_0 p a b c d = 2 := by
  have h0 := own_max p
  have h2 : (f0_0 p a b c d).toInt = (p &&& (2147483647 : Int32)).toInt % 3 := by
    rw [f0_0]
    generalize p &&& (2147483647 : Int32) = x at *
    have hx := x.toInt_lt
    have dd : (x / 3).toInt = x.toInt / 3 := by
      rw [Int32.toInt_div_of_ne_right x 3 (by decide), show (3 : Int32).toInt = 3 from by decide, Int.tdiv_eq_ediv_of_nonneg h0]
    rw [Int32.toInt_sub, Int32.toInt_mul, dd, show (3 : Int32).toInt = 3 from by decide]
    have b1 : (x.toInt / 3 * 3).bmod (2 ^ 32) = x.toInt / 3 * 3 := by rw [Int.bmod_def]; omega
    rw [b1, Int.bmod_def]
    omega
  simp only [← Int32.toInt_inj, h2, show (0 : Int32).toInt = 0 from by decide, show (1 : Int32).toInt = 1 from by decide, show (2 : Int32).toInt = 2 from by decide, show (3 : Int32).toInt = 3 from by decide, show (4 : Int32).toInt = 4 from by decide, show (5 : Int32).toInt = 5 from by decide]
  omega

abbrev own_G (tb : Tables) (e : Env) (below : List Frame) (Q : Outcome → State → Prop) (A : State) : Prop := ∃ s₂ o, Steps tb e below A s₂ ∧ s₂.status = .running ∧ Ended s₂ below o ∧ Q o s₂
theorem own_step {tb : Tables} {e : Env} {below : List Frame} {Q : Outcome → State → Prop} {A B : State} (h : ∀ t, Steps tb e below B t → Steps tb e below A t) (g : own_G tb e below Q B) : own_G tb e below Q A := by
  obtain ⟨s2, o, h1, h2⟩ := g
  exact ⟨s2, o, h _ h1, h2⟩
theorem own_aT {x y : Addr} (h : x = y) : XT.acmp .eq (.ref x) (.ref y) = true ∧ XT.acmp .ne (.ref x) (.ref y) = false := by subst h; exact ⟨by simp [XT.acmp], by simp [XT.acmp]⟩
theorem own_aF {x y : Addr} (h : ¬ x = y) : XT.acmp .eq (.ref x) (.ref y) = false ∧ XT.acmp .ne (.ref x) (.ref y) = true := by simp [XT.acmp, h]
theorem own_cl (x y : Int64) : XT.cmpL x y < 0 ↔ x < y := lw_lt x y
theorem own_cg (x y : Int64) : 0 < XT.cmpL x y ↔ y < x := lw_gt x y
theorem own_ce (x y : Int64) : XT.cmpL x y = 0 ↔ x = y := lw_eq x y
theorem pd_0 : parseMethodDescriptor "()V" = some ⟨[], none⟩ := by decide +kernel
theorem pd_1 : parseMethodDescriptor "(I)V" = some ⟨[.int], none⟩ := by decide +kernel
theorem pd_2 : parseMethodDescriptor "([[Ljava/lang/Object;I)V" = some ⟨[(.array (.array (.object "java/lang/Object"))), .int], none⟩ := by decide +kernel
theorem pd_3 : parseMethodDescriptor "(Lcom/example/apportion/apportion/AppendOnlyList$Prefix;)V" = some ⟨[(.object "com/example/apportion/apportion/AppendOnlyList$Prefix")], none⟩ := by decide +kernel
theorem pd_4 : parseMethodDescriptor "()Lcom/example/apportion/apportion/AppendOnlyList$Prefix;" = some ⟨[], some (.object "com/example/apportion/apportion/AppendOnlyList$Prefix")⟩ := by decide +kernel
theorem pd_5 : parseMethodDescriptor "()I" = some ⟨[], some .int⟩ := by decide +kernel
theorem pd_6 : parseMethodDescriptor "()Ljava/util/Iterator;" = some ⟨[], some (.object "java/util/Iterator")⟩ := by decide +kernel
theorem pd_7 : parseMethodDescriptor "()Z" = some ⟨[], some .boolean⟩ := by decide +kernel
theorem pd_8 : parseMethodDescriptor "(I)Ljava/lang/Integer;" = some ⟨[.int], some (.object "java/lang/Integer")⟩ := by decide +kernel
theorem pd_9 : parseMethodDescriptor "(Ljava/lang/Object;)V" = some ⟨[(.object "java/lang/Object")], none⟩ := by decide +kernel
theorem pd_10 : parseMethodDescriptor "()Ljava/lang/Object;" = some ⟨[], some (.object "java/lang/Object")⟩ := by decide +kernel
theorem d12_0 : decode jdk_18_method_1_code 0 = .ok (.aload_n 0, 1) := by decide +kernel
theorem d12_1 : decode jdk_18_method_1_code 1 = .ok (.invokespecial 1, 3) := by decide +kernel
theorem d12_4 : decode jdk_18_method_1_code 4 = .ok (.return_, 1) := by decide +kernel
theorem pn_12 : plainName "java/lang/Number" = true := by first | (simp [plainName, overriddenIn]; done) | decide +kernel
theorem ef_12 (m : MethodId) (a1 : Addr) : entryFrame m #[(.ref a1)] 1 = mkF m 0 #[.val (.ref a1)] [] := by first | (simp [entryFrame, mkF, argsToLocals, Value.category]; done) | rfl
def Q12 (Z : State) (a1 : Addr) (h0 : Heap) (n0 : Nat) (v : Option Value) (h : Heap) (L : List Loc) : Prop := v = none ∧ Fr n0 L ∧ Keep h0 h []
set_option maxRecDepth 65536 in
set_option maxHeartbeats 40000000 in
theorem rm12 (l : Launch) (Z : State) (a0 : Array Value) (hw : ∀ d ∈ tables_1, d.before a0 Z = true) (ws : List Jvm.Cond) (a1 : Addr) (h0 : Heap) (n0 : Nat) (Z0 : n0 ≤ h0.size) :
    MetFree l (⟨"java/lang/Number", "<init>", "()V"⟩ : MethodName) (head1 (Jvm.Cond.code (⟨"java/lang/Number", "<init>", "()V"⟩ : MethodName) jdk_18_method_1_code 1 none :: ws) ({ frames := 1, cells := 0, slots := 0, locals := 12 } : Room)) (fun a U => a = #[(.ref a1)] ∧ Z.Warmed39 U.vm ∧ U.heap = h0) (fun _ _ _ _ _ => True) (fun _ U o U' => ∃ v L, o = .returned v ∧ Q12 Z a1 h0 n0 v U'.heap L ∧ FrameEnd U o U' L ({ frames := 1, cells := 0, slots := 0, locals := 12 } : Room).cells ({ frames := 1, cells := 0, slots := 0, locals := 12 } : Room).slots) := by
  refine MetFree.of_bodySF (plainFor_of_name pn_12) hisR ?_
  intro p e s m args below meth c s₁ Bd hml0 hP hK
  obtain ⟨rfl, hZ, hh⟩ := hP
  have hx := Bd.exec
  have hby := Bd.bytes
  have hml : c.maxLocals = 1 := hml0
  have hown : s.vm.findClass "java/lang/Number" = some m.cls := findClass_of_methodNamed Bd.named
  have hnm := (name_of_methodNamed Bd.named Bd.method).1
  have X0 : Stand p l e ({ frames := 1, cells := 0, slots := 0, locals := 12 } : Room) s m #[(.ref a1)] below meth c s₁ [] 0 0 := Stand.of_body Bd
  have e0 : s₁.heap = h0 := by rw [← hh, Bd.state]; rfl
  have N0 := Fr.nil n0
  have pre0 : ∀ t, Steps p.tables e below (s₁.setTop (mkF m 0 #[.val (.ref a1)] [])) t → Steps p.tables e below (s₁.setTop (entryFrame m #[(.ref a1)] 1)) t := fun t k => castTop (ef_12 m a1) k
  refine own_step (Q := fun o U' => ∃ v L, o = .returned v ∧ Q12 Z a1 h0 n0 v U'.heap L ∧ FrameEnd s o U' L ({ frames := 1, cells := 0, slots := 0, locals := 12 } : Room).cells ({ frames := 1, cells := 0, slots := 0, locals := 12 } : Room).slots) pre0 ?_
  have K0 : Keep h0 h0 [] := Keep.refl h0 []
  obtain ⟨T1, X1, e1, st1⟩ := initO X0 hx hZ hown (hw _ (List.mem_of_getElem? (i := 91) rfl)) (hw _ (List.mem_of_getElem? (i := 8) rfl)) (hw _ (List.mem_of_getElem? (i := 9) rfl)) e0 (g := (mkF m 1 #[.val (.ref a1)] [(.ref a1)])) rfl (by rw [hml]; rfl) rfl (hb hby d12_1) (by decide) (W := 0) (by show 2 * 0 + _ ≤ _; exact Nat.le_of_eq rfl) (by decide)
  obtain ⟨fs, hr, hrun, hended, hW, hsame⟩ := X1.leave (v := none) (fun _ => rfl)
  refine ⟨_, _, ?_, hrun, hended, _, _, rfl, ?_, ⟨_, rfl⟩, hW, hsame.mono (by decide) (by decide)⟩
  · show Steps p.tables e below (s₁.setTop (mkF m 0 #[.val (.ref a1)] [])) _
    refine XS.aloadN X0.here hx rfl (hb hby d12_0) rfl rfl ?_
    show Steps p.tables e below (s₁.setTop (mkF m 1 #[.val (.ref a1)] [(.ref a1)])) _
    refine st1 _ ?_
    show Steps p.tables e below (T1.setTop (mkF m 4 #[.val (.ref a1)] [])) _
    exact X1.returnOut hx Bd.returns (hb hby d12_4) hr
  · show Q12 Z a1 h0 n0 _ T1.heap _
    rw [e1]
    exact ⟨rfl, N0, K0⟩
theorem d11_0 : decode jdk_33_method_23_code 0 = .ok (.aload_n 0, 1) := by decide +kernel
theorem d11_1 : decode jdk_33_method_23_code 1 = .ok (.invokespecial 202, 3) := by decide +kernel
theorem d11_4 : decode jdk_33_method_23_code 4 = .ok (.aload_n 0, 1) := by decide +kernel
theorem d11_5 : decode jdk_33_method_23_code 5 = .ok (.iload_n 1, 1) := by decide +kernel
theorem d11_6 : decode jdk_33_method_23_code 6 = .ok (.putfield 205, 3) := by decide +kernel
theorem d11_9 : decode jdk_33_method_23_code 9 = .ok (.return_, 1) := by decide +kernel
theorem pn_11 : plainName "java/lang/Integer" = true := by first | (simp [plainName, overriddenIn]; done) | decide +kernel
theorem ef_11 (m : MethodId) (a1 : Addr) (p2 : Int32) : entryFrame m #[(.ref a1), (.int p2)] 2 = mkF m 0 #[.val (.ref a1), .val (.int p2)] [] := by first | (simp [entryFrame, mkF, argsToLocals, Value.category]; done) | rfl
def Q11 (Z : State) (a1 : Addr) (p2 : Int32) (h0 : Heap) (n0 : Nat) (v : Option Value) (h : Heap) (L : List Loc) : Prop := v = none ∧ Fr n0 L ∧ Keep h0 h [a1] ∧ (Exa Z h a1 "java/lang/Integer") ∧ (Fld Z h a1 "java/lang/Integer" "value" "I" (.int p2))
set_option maxRecDepth 65536 in
set_option maxHeartbeats 40000000 in
theorem rm11 (l : Launch) (Z : State) (a0 : Array Value) (hw : ∀ d ∈ tables_1, d.before a0 Z = true) (ws : List Jvm.Cond) (a1 : Addr) (p2 : Int32) (h0 : Heap) (n0 : Nat) (Z0 : n0 ≤ h0.size) (E_a1 : Exa Z h0 a1 "java/lang/Integer") (G_a1 : n0 ≤ a1) (F_a1_value : Fld Z h0 a1 "java/lang/Integer" "value" "I" (.int (0 : Int32))) :
    MetFree l (⟨"java/lang/Integer", "<init>", "(I)V"⟩ : MethodName) (head1 (Jvm.Cond.code (⟨"java/lang/Integer", "<init>", "(I)V"⟩ : MethodName) jdk_33_method_23_code 2 none :: ws) ({ frames := 2, cells := 0, slots := 0, locals := 24 } : Room)) (fun a U => a = #[(.ref a1), (.int p2)] ∧ Z.Warmed39 U.vm ∧ U.heap = h0) (fun _ _ _ _ _ => True) (fun _ U o U' => ∃ v L, o = .returned v ∧ Q11 Z a1 p2 h0 n0 v U'.heap L ∧ FrameEnd U o U' L ({ frames := 2, cells := 0, slots := 0, locals := 24 } : Room).cells ({ frames := 2, cells := 0, slots := 0, locals := 24 } : Room).slots) := by
  refine MetFree.of_bodySF (plainFor_of_name pn_11) hisR ?_
  intro p e s m args below meth c s₁ Bd hml0 hP hK
  obtain ⟨rfl, hZ, hh⟩ := hP
  have hx := Bd.exec
  have hby := Bd.bytes
  have hml : c.maxLocals = 2 := hml0
  have hown : s.vm.findClass "java/lang/Integer" = some m.cls := findClass_of_methodNamed Bd.named
  have hnm := (name_of_methodNamed Bd.named Bd.method).1
  have X0 : Stand p l e ({ frames := 2, cells := 0, slots := 0, locals := 24 } : Room) s m #[(.ref a1), (.int p2)] below meth c s₁ [] 0 0 := Stand.of_body Bd
  have e0 : s₁.heap = h0 := by rw [← hh, Bd.state]; rfl
  have N0 := Fr.nil n0
  have pre0 : ∀ t, Steps p.tables e below (s₁.setTop (mkF m 0 #[.val (.ref a1), .val (.int p2)] [])) t → Steps p.tables e below (s₁.setTop (entryFrame m #[(.ref a1), (.int p2)] 2)) t := fun t k => castTop (ef_11 m a1 p2) k
  refine own_step (Q := fun o U' => ∃ v L, o = .returned v ∧ Q11 Z a1 p2 h0 n0 v U'.heap L ∧ FrameEnd s o U' L ({ frames := 2, cells := 0, slots := 0, locals := 24 } : Room).cells ({ frames := 2, cells := 0, slots := 0, locals := 24 } : Room).slots) pre0 ?_
  have K0 : Keep h0 h0 [a1] := Keep.refl h0 [a1]
  obtain ⟨_, _, ⟨T1, L1, k1, n1⟩, -, X1, ⟨Lc1, hQ1, l1, y1, z1⟩, st1⟩ := X0.specialBack hx (y := (⟨"java/lang/Number", "<init>", "()V"⟩ : MethodName)) rfl hown (mvT hZ (hw _ (List.mem_of_getElem? (i := 85) rfl))) (mvT hZ (hw _ (List.mem_of_getElem? (i := 86) rfl))) (mvT hZ (hw _ (List.mem_of_getElem? (i := 90) rfl))) (by decide) (backOf (W := 0) (rm12 l Z a0 hw [] a1 h0 n0 Z0) hZ (hw _ (List.mem_of_getElem? (i := 90) rfl)) (hw _ (List.mem_of_getElem? (i := 89) rfl)) (by decide) (by decide)) (g := (mkF m 1 #[.val (.ref a1), .val (.int p2)] [(.ref a1)])) rfl (by rw [hml]; rfl) (Steps.refl _) (a := a1) (argsL := []) (rest := []) (lenOf pd_0 rfl) rfl (by show 2 * 0 + _ ≤ _; exact Nat.le_of_eq rfl) (hb hby d11_1) (fun _ _ => ⟨rfl, e0, (by decide : 0 + 0 ≤ _), (by decide : 0 + 0 ≤ _)⟩)
  dsimp only [Pt.U, Pt.locs, Pt.cells, Pt.slots] at X1 l1 y1 z1 st1 hQ1
  subst l1 y1 z1
  obtain ⟨rfl, N1q, Kc1⟩ := hQ1
  have N1 := Fr.app N0 N1q
  have u1_0 := E_a1.keep Kc1
  have u1_1 := F_a1_value.keep Kc1 (List.not_mem_nil)
  have K1 := K0.trans Kc1 (fun x hx => absurd hx List.not_mem_nil)
  have Z1 : n0 ≤ T1.heap.size := Nat.le_trans Z0 Kc1.1
  obtain ⟨T2, h2, X2, e2, W2, st2⟩ := putF X1 hx hZ hown (host := "") (Or.inl (hw _ (List.mem_of_getElem? (i := 92) rfl))) Via.refl rfl u1_1 u1_0 (Or.inr ⟨(hw _ (List.mem_of_getElem? (i := 93) rfl)), rfl, hnm⟩) (hw _ (List.mem_of_getElem? (i := 80) rfl)) (ty := .int) (by decide) rfl rfl (g := (mkF m 6 #[.val (.ref a1), .val (.int p2)] [(.int p2), (.ref a1)])) rfl rfl (hb hby d11_6)
  have u2_0 := u1_0.wr W2
  have u2_1 := u1_1.same W2
  have K2 := K1.wr W2 (Or.inl (List.mem_of_getElem? (i := 0) rfl))
  have Z2 : n0 ≤ h2.size := Nat.le_trans Z1 (Keep.of_wr W2).1
  have N2 := Fr.snoc X2 N1 G_a1
  obtain ⟨fs, hr, hrun, hended, hW, hsame⟩ := X2.leave (v := none) (fun _ => rfl)
  refine ⟨_, _, ?_, hrun, hended, _, _, rfl, ?_, ⟨_, rfl⟩, hW, hsame.mono (by decide) (by decide)⟩
  · show Steps p.tables e below (s₁.setTop (mkF m 0 #[.val (.ref a1), .val (.int p2)] [])) _
    refine XS.aloadN X0.here hx rfl (hb hby d11_0) rfl rfl ?_
    show Steps p.tables e below (s₁.setTop (mkF m 1 #[.val (.ref a1), .val (.int p2)] [(.ref a1)])) _
    refine st1.trans ?_
    show Steps p.tables e below (T1.setTop (mkF m 4 #[.val (.ref a1), .val (.int p2)] [])) _
    refine XS.aloadN X1.here hx rfl (hb hby d11_4) rfl rfl ?_
    show Steps p.tables e below (T1.setTop (mkF m 5 #[.val (.ref a1), .val (.int p2)] [(.ref a1)])) _
    refine XS.iloadN X1.here hx rfl (hb hby d11_5) rfl ?_
    show Steps p.tables e below (T1.setTop (mkF m 6 #[.val (.ref a1), .val (.int p2)] [(.int p2), (.ref a1)])) _
    refine st2 _ ?_
    show Steps p.tables e below (T2.setTop (mkF m 9 #[.val (.ref a1), .val (.int p2)] [])) _
    exact X2.returnOut hx Bd.returns (hb hby d11_9) hr
  · show Q11 Z a1 p2 h0 n0 _ T2.heap _
    rw [e2]
    exact ⟨rfl, N2, K2, u2_0, u2_1⟩
theorem d9_0 : decode jdk_33_method_22_code 0 = .ok (.iload_n 0, 1) := by decide +kernel
theorem d9_1 : decode jdk_33_method_22_code 1 = .ok (.bipush (-128), 2) := by decide +kernel
theorem d9_3 : decode jdk_33_method_22_code 3 = .ok (.if_icmp .lt 20, 3) := by decide +kernel
theorem d9_6 : decode jdk_33_method_22_code 6 = .ok (.iload_n 0, 1) := by decide +kernel
theorem d9_7 : decode jdk_33_method_22_code 7 = .ok (.getstatic 191, 3) := by decide +kernel
theorem d9_10 : decode jdk_33_method_22_code 10 = .ok (.if_icmp .gt 13, 3) := by decide +kernel
theorem d9_13 : decode jdk_33_method_22_code 13 = .ok (.getstatic 195, 3) := by decide +kernel
theorem d9_16 : decode jdk_33_method_22_code 16 = .ok (.iload_n 0, 1) := by decide +kernel
theorem d9_17 : decode jdk_33_method_22_code 17 = .ok (.sipush 128, 3) := by decide +kernel
theorem d9_20 : decode jdk_33_method_22_code 20 = .ok (.iadd, 1) := by decide +kernel
theorem d9_21 : decode jdk_33_method_22_code 21 = .ok (.aaload, 1) := by decide +kernel
theorem d9_22 : decode jdk_33_method_22_code 22 = .ok (.areturn, 1) := by decide +kernel
theorem d9_23 : decode jdk_33_method_22_code 23 = .ok (.new 1, 3) := by decide +kernel
theorem d9_26 : decode jdk_33_method_22_code 26 = .ok (.dup, 1) := by decide +kernel
theorem d9_27 : decode jdk_33_method_22_code 27 = .ok (.iload_n 0, 1) := by decide +kernel
theorem d9_28 : decode jdk_33_method_22_code 28 = .ok (.invokespecial 199, 3) := by decide +kernel
theorem d9_31 : decode jdk_33_method_22_code 31 = .ok (.areturn, 1) := by decide +kernel
theorem pn_9 : plainName "java/lang/Integer" = true := by first | (simp [plainName, overriddenIn]; done) | decide +kernel
theorem ef_9 (m : MethodId) (p1 : Int32) : entryFrame m #[(.int p1)] 1 = mkF m 0 #[.val (.int p1)] [] := by first | (simp [entryFrame, mkF, argsToLocals, Value.category]; done) | rfl
def Q9 (Z : State) (p1 : Int32) (h0 : Heap) (n0 : Nat) (v : Option Value) (h : Heap) (L : List Loc) : Prop := ∃ (r : Addr), v = some (.ref r) ∧ Fr n0 L ∧ Keep h0 h [] ∧ (Exa Z h r "java/lang/Integer") ∧ (Fld Z h r "java/lang/Integer" "value" "I" (.int p1))
set_option maxRecDepth 65536 in
set_option maxHeartbeats 40000000 in
theorem rm9 (l : Launch) (Z : State) (a0 : Array Value) (hw : ∀ d ∈ tables_1, d.before a0 Z = true) (ws : List Jvm.Cond) (p1 : Int32) (h0 : Heap) (n0 : Nat) (Z0 : n0 ≤ h0.size) (OLD : Old Z n0 h0) (hC : own_C Z) :
    MetFree l (⟨"java/lang/Integer", "valueOf", "(I)Ljava/lang/Integer;"⟩ : MethodName) (head1 (Jvm.Cond.code (⟨"java/lang/Integer", "valueOf", "(I)Ljava/lang/Integer;"⟩ : MethodName) jdk_33_method_22_code 1 (some (.object "java/lang/Integer")) :: ws) ({ frames := 3, cells := 1, slots := 1, locals := 38 } : Room)) (fun a U => a = #[(.int p1)] ∧ Z.Warmed39 U.vm ∧ U.heap = h0) (fun _ _ _ _ _ => True) (fun _ U o U' => ∃ v L, o = .returned v ∧ Q9 Z p1 h0 n0 v U'.heap L ∧ FrameEnd U o U' L ({ frames := 3, cells := 1, slots := 1, locals := 38 } : Room).cells ({ frames := 3, cells := 1, slots := 1, locals := 38 } : Room).slots) := by
  refine MetFree.of_bodySF (plainFor_of_name pn_9) hisR ?_
  intro p e s m args below meth c s₁ Bd hml0 hP hK
  obtain ⟨rfl, hZ, hh⟩ := hP
  have hx := Bd.exec
  have hby := Bd.bytes
  have hml : c.maxLocals = 1 := hml0
  have hown : s.vm.findClass "java/lang/Integer" = some m.cls := findClass_of_methodNamed Bd.named
  have hnm := (name_of_methodNamed Bd.named Bd.method).1
  have X0 : Stand p l e ({ frames := 3, cells := 1, slots := 1, locals := 38 } : Room) s m #[(.int p1)] below meth c s₁ [] 0 0 := Stand.of_body Bd
  have e0 : s₁.heap = h0 := by rw [← hh, Bd.state]; rfl
  have N0 := Fr.nil n0
  have pre0 : ∀ t, Steps p.tables e below (s₁.setTop (mkF m 0 #[.val (.int p1)] [])) t → Steps p.tables e below (s₁.setTop (entryFrame m #[(.int p1)] 1)) t := fun t k => castTop (ef_9 m p1) k
  refine own_step (Q := fun o U' => ∃ v L, o = .returned v ∧ Q9 Z p1 h0 n0 v U'.heap L ∧ FrameEnd s o U' L ({ frames := 3, cells := 1, slots := 1, locals := 38 } : Room).cells ({ frames := 3, cells := 1, slots := 1, locals := 38 } : Room).slots) pre0 ?_
  have K0 : Keep h0 h0 [] := Keep.refl h0 []
  have Sh := Sta.ext OLD.2 hC.1
  refine own_step (B := s₁.setTop (mkF m 3 #[.val (.int p1)] [(.int (-128 : Int32)), (.int p1)])) (fun t k => ?_) ?_
  · show Steps p.tables e below (s₁.setTop (mkF m 0 #[.val (.int p1)] [])) _
    refine XS.iloadN X0.here hx rfl (hb hby d9_0) rfl ?_
    show Steps p.tables e below (s₁.setTop (mkF m 1 #[.val (.int p1)] [(.int p1)])) _
    refine XS.bipush X0.here hx rfl (hb hby d9_1) ?_
    exact k
  by_cases h1 : p1 < (-128 : Int32)
  · obtain ⟨T2, h2, X2, e2, E2, A2, D2, -, st2⟩ := newO X0 hx hZ hown (hw _ (List.mem_of_getElem? (i := 79) rfl)) (hw _ (List.mem_of_getElem? (i := 80) rfl)) (hw _ (List.mem_of_getElem? (i := 65) rfl)) e0 (g := (mkF m 23 #[.val (.int p1)] [])) rfl (hb hby d9_23) (by decide) (by decide)
    obtain ⟨o2, g2⟩ : ∃ z, z = h0.size := ⟨_, rfl⟩
    rw [← g2] at A2 D2 st2
    have u2_0 := Sh.ext E2
    have ge2 : n0 ≤ o2 := Nat.le_trans Z0 (Nat.le_of_eq g2.symm)
    have Z2 : n0 ≤ h2.size := Nat.le_trans Z0 E2.1
    have sz2 : h0.size ≤ o2 := Nat.le_trans K0.1 (Nat.le_of_eq g2.symm)
    have K2 := K0.ext E2
    have OL2 := OLD.ext E2
    have D2_93 : Fld Z h2 o2 "java/lang/Integer" "value" "I" (.int (0 : Int32)) := D2 (Or.inr (hw _ (List.mem_of_getElem? (i := 93) rfl))) (ty := .int) (by decide)
    obtain ⟨_, _, ⟨T3, L3, k3, n3⟩, -, X3, ⟨Lc3, hQ3, l3, y3, z3⟩, st3⟩ := X2.specialBack hx (y := (⟨"java/lang/Integer", "<init>", "(I)V"⟩ : MethodName)) rfl hown (mvT hZ (hw _ (List.mem_of_getElem? (i := 81) rfl))) (mvT hZ (hw _ (List.mem_of_getElem? (i := 82) rfl))) (mvT hZ (hw _ (List.mem_of_getElem? (i := 84) rfl))) (by decide) (backOf (W := 1) (rm11 l Z a0 hw [] o2 p1 h2 n0 Z2 A2 ge2 D2_93) hZ (hw _ (List.mem_of_getElem? (i := 84) rfl)) (hw _ (List.mem_of_getElem? (i := 65) rfl)) (by decide) (by decide)) (g := (mkF m 28 #[.val (.int p1)] [(.int p1), (.ref o2), (.ref o2)])) rfl (by rw [hml]; rfl) (Steps.refl _) (a := o2) (argsL := [(.int p1)]) (rest := [(.ref o2)]) (lenOf pd_1 rfl) rfl (by show 2 * 0 + _ ≤ _; exact Nat.le_of_eq rfl) (hb hby d9_28) (fun _ _ => ⟨rfl, e2, (by decide : 1 + 0 ≤ _), (by decide : 1 + 0 ≤ _)⟩)
    dsimp only [Pt.U, Pt.locs, Pt.cells, Pt.slots] at X3 l3 y3 z3 st3 hQ3
    subst l3 y3 z3
    obtain ⟨rfl, N3q, Kc3, c3_0, c3_1⟩ := hQ3
    have N3 := Fr.app N0 N3q
    have u3_1 := A2.keep Kc3
    have OL3 := OL2.keep Kc3 (fun x hx => by cases List.mem_singleton.mp hx; exact ge2)
    have K3 := K2.trans Kc3 (fun x hx => by cases List.mem_singleton.mp hx; exact Or.inr sz2)
    have Z3 : n0 ≤ T3.heap.size := Nat.le_trans Z2 Kc3.1
    obtain ⟨fs, hr, hrun, hended, hW, hsame⟩ := X3.leave (v := some (.ref o2)) (fun h => by rw [Bd.returns] at h; cases h)
    refine ⟨_, _, ?_, hrun, hended, _, _, rfl, ?_, ⟨_, rfl⟩, hW, hsame.mono (by decide) (by decide)⟩
    · show Steps p.tables e below (s₁.setTop (mkF m 3 #[.val (.int p1)] [(.int (-128 : Int32)), (.int p1)])) _
      refine XS.icmpYes X0.here hx rfl (pc0 := 3) (pc' := 23) rfl (hb hby d9_3) rfl (tlt h1).1 (by decide) (by decide) ?_
      show Steps p.tables e below (s₁.setTop (mkF m 23 #[.val (.int p1)] [])) _
      refine st2 _ ?_
      show Steps p.tables e below (T2.setTop (mkF m 26 #[.val (.int p1)] [(.ref o2)])) _
      refine XS.dup X2.here hx rfl (hb hby d9_26) rfl rfl ?_
      show Steps p.tables e below (T2.setTop (mkF m 27 #[.val (.int p1)] [(.ref o2), (.ref o2)])) _
      refine XS.iloadN X2.here hx rfl (hb hby d9_27) rfl ?_
      show Steps p.tables e below (T2.setTop (mkF m 28 #[.val (.int p1)] [(.int p1), (.ref o2), (.ref o2)])) _
      refine st3.trans ?_
      show Steps p.tables e below (T3.setTop (mkF m 31 #[.val (.int p1)] [(.ref o2)])) _
      jvm_step X3.here [X3.here.top, hx, (hb hby d9_31), X3.method', Bd.returns, Value.isRef, FieldType.isReference]
      first | (intro acts; rw [hr _ acts rfl rfl rfl]) | rw [hr _ _ rfl rfl rfl]
      exact Steps.refl _
    · show Q9 Z p1 h0 n0 _ T3.heap _
      exact ⟨o2, rfl, N3, K3, c3_0, c3_1⟩
  · obtain ⟨T4, X4, e4, st4⟩ := getS X0 hx hZ (host := "") hown (hw _ (List.mem_of_getElem? (i := 67) rfl)) Via.refl e0 Sh (g := (mkF m 7 #[.val (.int p1)] [(.int p1)])) rfl (hb hby d9_7)
    refine own_step (B := T4.setTop (mkF m 10 #[.val (.int p1)] [(.int (127 : Int32)), (.int p1)])) (fun t k => ?_) ?_
    · show Steps p.tables e below (s₁.setTop (mkF m 3 #[.val (.int p1)] [(.int (-128 : Int32)), (.int p1)])) _
      refine XS.icmpNo X0.here hx rfl (hb hby d9_3) rfl (flt h1).1 ?_
      show Steps p.tables e below (s₁.setTop (mkF m 6 #[.val (.int p1)] [])) _
      refine XS.iloadN X0.here hx rfl (hb hby d9_6) rfl ?_
      show Steps p.tables e below (s₁.setTop (mkF m 7 #[.val (.int p1)] [(.int p1)])) _
      refine st4 _ ?_
      exact k
    by_cases h5 : (127 : Int32) < p1
    · obtain ⟨T6, h6, X6, e6, E6, A6, D6, -, st6⟩ := newO X4 hx hZ hown (hw _ (List.mem_of_getElem? (i := 79) rfl)) (hw _ (List.mem_of_getElem? (i := 80) rfl)) (hw _ (List.mem_of_getElem? (i := 65) rfl)) e4 (g := (mkF m 23 #[.val (.int p1)] [])) rfl (hb hby d9_23) (by decide) (by decide)
      obtain ⟨o6, g6⟩ : ∃ z, z = h0.size := ⟨_, rfl⟩
      rw [← g6] at A6 D6 st6
      have u6_0 := Sh.ext E6
      have ge6 : n0 ≤ o6 := Nat.le_trans Z0 (Nat.le_of_eq g6.symm)
      have Z6 : n0 ≤ h6.size := Nat.le_trans Z0 E6.1
      have sz6 : h0.size ≤ o6 := Nat.le_trans K0.1 (Nat.le_of_eq g6.symm)
      have K6 := K0.ext E6
      have OL6 := OLD.ext E6
      have D6_93 : Fld Z h6 o6 "java/lang/Integer" "value" "I" (.int (0 : Int32)) := D6 (Or.inr (hw _ (List.mem_of_getElem? (i := 93) rfl))) (ty := .int) (by decide)
      obtain ⟨_, _, ⟨T7, L7, k7, n7⟩, -, X7, ⟨Lc7, hQ7, l7, y7, z7⟩, st7⟩ := X6.specialBack hx (y := (⟨"java/lang/Integer", "<init>", "(I)V"⟩ : MethodName)) rfl hown (mvT hZ (hw _ (List.mem_of_getElem? (i := 81) rfl))) (mvT hZ (hw _ (List.mem_of_getElem? (i := 82) rfl))) (mvT hZ (hw _ (List.mem_of_getElem? (i := 84) rfl))) (by decide) (backOf (W := 1) (rm11 l Z a0 hw [] o6 p1 h6 n0 Z6 A6 ge6 D6_93) hZ (hw _ (List.mem_of_getElem? (i := 84) rfl)) (hw _ (List.mem_of_getElem? (i := 65) rfl)) (by decide) (by decide)) (g := (mkF m 28 #[.val (.int p1)] [(.int p1), (.ref o6), (.ref o6)])) rfl (by rw [hml]; rfl) (Steps.refl _) (a := o6) (argsL := [(.int p1)]) (rest := [(.ref o6)]) (lenOf pd_1 rfl) rfl (by show 2 * 0 + _ ≤ _; exact Nat.le_of_eq rfl) (hb hby d9_28) (fun _ _ => ⟨rfl, e6, (by decide : 1 + 0 ≤ _), (by decide : 1 + 0 ≤ _)⟩)
      dsimp only [Pt.U, Pt.locs, Pt.cells, Pt.slots] at X7 l7 y7 z7 st7 hQ7
      subst l7 y7 z7
      obtain ⟨rfl, N7q, Kc7, c7_0, c7_1⟩ := hQ7
      have N7 := Fr.app N0 N7q
      have u7_1 := A6.keep Kc7
      have OL7 := OL6.keep Kc7 (fun x hx => by cases List.mem_singleton.mp hx; exact ge6)
      have K7 := K6.trans Kc7 (fun x hx => by cases List.mem_singleton.mp hx; exact Or.inr sz6)
      have Z7 : n0 ≤ T7.heap.size := Nat.le_trans Z6 Kc7.1
      obtain ⟨fs, hr, hrun, hended, hW, hsame⟩ := X7.leave (v := some (.ref o6)) (fun h => by rw [Bd.returns] at h; cases h)
      refine ⟨_, _, ?_, hrun, hended, _, _, rfl, ?_, ⟨_, rfl⟩, hW, hsame.mono (by decide) (by decide)⟩
      · show Steps p.tables e below (T4.setTop (mkF m 10 #[.val (.int p1)] [(.int (127 : Int32)), (.int p1)])) _
        refine XS.icmpYes X4.here hx rfl (pc0 := 10) (pc' := 23) rfl (hb hby d9_10) rfl (tlt h5).2.2.1 (by decide) (by decide) ?_
        show Steps p.tables e below (T4.setTop (mkF m 23 #[.val (.int p1)] [])) _
        refine st6 _ ?_
        show Steps p.tables e below (T6.setTop (mkF m 26 #[.val (.int p1)] [(.ref o6)])) _
        refine XS.dup X6.here hx rfl (hb hby d9_26) rfl rfl ?_
        show Steps p.tables e below (T6.setTop (mkF m 27 #[.val (.int p1)] [(.ref o6), (.ref o6)])) _
        refine XS.iloadN X6.here hx rfl (hb hby d9_27) rfl ?_
        show Steps p.tables e below (T6.setTop (mkF m 28 #[.val (.int p1)] [(.int p1), (.ref o6), (.ref o6)])) _
        refine st7.trans ?_
        show Steps p.tables e below (T7.setTop (mkF m 31 #[.val (.int p1)] [(.ref o6)])) _
        jvm_step X7.here [X7.here.top, hx, (hb hby d9_31), X7.method', Bd.returns, Value.isRef, FieldType.isReference]
        first | (intro acts; rw [hr _ acts rfl rfl rfl]) | rw [hr _ _ rfl rfl rfl]
        exact Steps.refl _
      · show Q9 Z p1 h0 n0 _ T7.heap _
        exact ⟨o6, rfl, N7, K7, c7_0, c7_1⟩
    · obtain ⟨ca, xa, kc, vs, Sc0, Ac0, hvx, Ex0, Fx0⟩ := hC.2 p1 h1 h5
      have Sc := Sta.ext OLD.2 Sc0
      have Ac := Ac0.ext OLD.2
      have Exx := Ex0.ext OLD.2
      have Fxx := Fx0.ext OLD.2
      obtain ⟨T8, X8, e8, st8⟩ := getS X4 hx hZ (host := "") hown (hw _ (List.mem_of_getElem? (i := 69) rfl)) Via.refl e4 Sc (g := (mkF m 13 #[.val (.int p1)] [])) rfl (hb hby d9_13)
      obtain ⟨cl9, Ar9, -, S9, M9, H9, -⟩ := id Ac
      have hin9 := inb_of (j := (p1 + (128 : Int32))) S9 (own_j p1 h1 h5)
      have hat9 := H9.at hin9 (v := (.ref xa)) (hvx)
      obtain ⟨fs, hr, hrun, hended, hW, hsame⟩ := X8.leave (v := some (.ref xa)) (fun h => by rw [Bd.returns] at h; cases h)
      refine ⟨_, _, ?_, hrun, hended, _, _, rfl, ?_, ⟨_, rfl⟩, hW, hsame.mono (by decide) (by decide)⟩
      · show Steps p.tables e below (T4.setTop (mkF m 10 #[.val (.int p1)] [(.int (127 : Int32)), (.int p1)])) _
        refine XS.icmpNo X4.here hx rfl (hb hby d9_10) rfl (flt h5).2.2.1 ?_
        show Steps p.tables e below (T4.setTop (mkF m 13 #[.val (.int p1)] [])) _
        refine st8 _ ?_
        show Steps p.tables e below (T8.setTop (mkF m 16 #[.val (.int p1)] [(.ref ca)])) _
        refine XS.iloadN X8.here hx rfl (hb hby d9_16) rfl ?_
        show Steps p.tables e below (T8.setTop (mkF m 17 #[.val (.int p1)] [(.int p1), (.ref ca)])) _
        refine XS.sipush X8.here hx rfl (hb hby d9_17) ?_
        show Steps p.tables e below (T8.setTop (mkF m 20 #[.val (.int p1)] [(.int (128 : Int32)), (.int p1), (.ref ca)])) _
        refine XS.iadd X8.here hx rfl (hb hby d9_20) rfl ?_
        show Steps p.tables e below (T8.setTop (mkF m 21 #[.val (.int p1)] [(.int (p1 + (128 : Int32))), (.ref ca)])) _
        refine X8.aaload hx (j := (p1 + (128 : Int32))) (v := (.ref xa)) (by rw [e8]; exact Ar9.1) (State.isArrayOf_alike hZ.alike Ar9.2.1) rfl Ar9.2.2 hin9 hat9 (g := (mkF m 21 #[.val (.int p1)] [(.int (p1 + (128 : Int32))), (.ref ca)])) rfl rfl (hb hby d9_21) _ ?_
        show Steps p.tables e below (T8.setTop (mkF m 22 #[.val (.int p1)] [(.ref xa)])) _
        jvm_step X8.here [X8.here.top, hx, (hb hby d9_22), X8.method', Bd.returns, Value.isRef, FieldType.isReference]
        first | (intro acts; rw [hr _ acts rfl rfl rfl]) | rw [hr _ _ rfl rfl rfl]
        exact Steps.refl _
      · show Q9 Z p1 h0 n0 _ T8.heap _
        rw [e8]
        exact ⟨xa, rfl, N0, K0, Exx, Fxx⟩
theorem d1_0 : decode prog_1_method_1_code 0 = .ok (.aload_n 0, 1) := by decide +kernel
theorem d1_1 : decode prog_1_method_1_code 1 = .ok (.invokespecial 3, 3) := by decide +kernel
theorem d1_4 : decode prog_1_method_1_code 4 = .ok (.aload_n 0, 1) := by decide +kernel
theorem d1_5 : decode prog_1_method_1_code 5 = .ok (.iconst 1, 1) := by decide +kernel
theorem d1_6 : decode prog_1_method_1_code 6 = .ok (.anewarray 9, 3) := by decide +kernel
theorem d1_9 : decode prog_1_method_1_code 9 = .ok (.putfield 11, 3) := by decide +kernel
theorem d1_12 : decode prog_1_method_1_code 12 = .ok (.return_, 1) := by decide +kernel
theorem pn_1 : plainName "com/example/apportion/apportion/AppendOnlyList" = true := by first | (simp [plainName, overriddenIn]; done) | decide +kernel
theorem ef_1 (m : MethodId) (a1 : Addr) : entryFrame m #[(.ref a1)] 1 = mkF m 0 #[.val (.ref a1)] [] := by first | (simp [entryFrame, mkF, argsToLocals, Value.category]; done) | rfl
def Q1 (Z : State) (a1 : Addr) (h0 : Heap) (n0 : Nat) (v : Option Value) (h : Heap) (L : List Loc) : Prop := ∃ (t1 : Addr), ∃ (k_t1 : ClassId), v = none ∧ Fr n0 L ∧ Keep h0 h [a1] ∧ h0.size ≤ t1 ∧ (Arv Z h t1 k_t1 (.array (.object "java/lang/Object")) (1 : Int32) [.null] .null) ∧ (Exa Z h a1 "com/example/apportion/apportion/AppendOnlyList") ∧ (Exa Z h t1 "[[Ljava/lang/Object;") ∧ (Fld Z h a1 "com/example/apportion/apportion/AppendOnlyList" "chunks" "[[Ljava/lang/Object;" (.ref t1)) ∧ (Fld Z h a1 "com/example/apportion/apportion/AppendOnlyList" "size" "I" (.int (0 : Int32))) ∧ (OvrA Z k_t1 (.object "java/lang/Object") "[Ljava/lang/Object;")
set_option maxRecDepth 65536 in
set_option maxHeartbeats 40000000 in
theorem rm1 (l : Launch) (Z : State) (a0 : Array Value) (hw : ∀ d ∈ tables_1, d.before a0 Z = true) (ws : List Jvm.Cond) (a1 : Addr) (h0 : Heap) (n0 : Nat) (Z0 : n0 ≤ h0.size) (E_a1 : Exa Z h0 a1 "com/example/apportion/apportion/AppendOnlyList") (G_a1 : n0 ≤ a1) (F_a1_chunks : Fld Z h0 a1 "com/example/apportion/apportion/AppendOnlyList" "chunks" "[[Ljava/lang/Object;" .null) (F_a1_size : Fld Z h0 a1 "com/example/apportion/apportion/AppendOnlyList" "size" "I" (.int (0 : Int32))) :
    MetFree l (⟨"com/example/apportion/apportion/AppendOnlyList", "<init>", "()V"⟩ : MethodName) (head1 (Jvm.Cond.code (⟨"com/example/apportion/apportion/AppendOnlyList", "<init>", "()V"⟩ : MethodName) prog_1_method_1_code 1 none :: ws) ({ frames := 1, cells := 1, slots := 1, locals := 12 } : Room)) (fun a U => a = #[(.ref a1)] ∧ Z.Warmed39 U.vm ∧ U.heap = h0) (fun _ _ _ _ _ => True) (fun _ U o U' => ∃ v L, o = .returned v ∧ Q1 Z a1 h0 n0 v U'.heap L ∧ FrameEnd U o U' L ({ frames := 1, cells := 1, slots := 1, locals := 12 } : Room).cells ({ frames := 1, cells := 1, slots := 1, locals := 12 } : Room).slots) := by
  refine MetFree.of_bodySF (plainFor_of_name pn_1) hisR ?_
  intro p e s m args below meth c s₁ Bd hml0 hP hK
  obtain ⟨rfl, hZ, hh⟩ := hP
  have hx := Bd.exec
  have hby := Bd.bytes
  have hml : c.maxLocals = 1 := hml0
  have hown : s.vm.findClass "com/example/apportion/apportion/AppendOnlyList" = some m.cls := findClass_of_methodNamed Bd.named
  have hnm := (name_of_methodNamed Bd.named Bd.method).1
  have X0 : Stand p l e ({ frames := 1, cells := 1, slots := 1, locals := 12 } : Room) s m #[(.ref a1)] below meth c s₁ [] 0 0 := Stand.of_body Bd
  have e0 : s₁.heap = h0 := by rw [← hh, Bd.state]; rfl
  have N0 := Fr.nil n0
  have pre0 : ∀ t, Steps p.tables e below (s₁.setTop (mkF m 0 #[.val (.ref a1)] [])) t → Steps p.tables e below (s₁.setTop (entryFrame m #[(.ref a1)] 1)) t := fun t k => castTop (ef_1 m a1) k
  refine own_step (Q := fun o U' => ∃ v L, o = .returned v ∧ Q1 Z a1 h0 n0 v U'.heap L ∧ FrameEnd s o U' L ({ frames := 1, cells := 1, slots := 1, locals := 12 } : Room).cells ({ frames := 1, cells := 1, slots := 1, locals := 12 } : Room).slots) pre0 ?_
  have K0 : Keep h0 h0 [a1] := Keep.refl h0 [a1]
  obtain ⟨T1, X1, e1, st1⟩ := initO X0 hx hZ hown (hw _ (List.mem_of_getElem? (i := 7) rfl)) (hw _ (List.mem_of_getElem? (i := 8) rfl)) (hw _ (List.mem_of_getElem? (i := 9) rfl)) e0 (g := (mkF m 1 #[.val (.ref a1)] [(.ref a1)])) rfl (by rw [hml]; rfl) rfl (hb hby d1_1) (by decide) (W := 0) (by show 2 * 0 + _ ≤ _; exact Nat.le_of_eq rfl) (by decide)
  obtain ⟨T2, h2, kc2, X2, e2, E2, A2, Ex2, OV2, st2⟩ := newRA X1 hx hZ hown (ty := (.object "java/lang/Object")) (by decide) (hw _ (List.mem_of_getElem? (i := 10) rfl)) (hw _ (List.mem_of_getElem? (i := 11) rfl)) e1 (g := (mkF m 6 #[.val (.ref a1)] [(.int (1 : Int32)), (.ref a1)])) rfl (hb hby d1_6) (n := (1 : Int32)) (rest := [(.ref a1)]) rfl (by decide) (cap := 1) (by decide) (by decide) (by decide) (by decide) (ad := "[[Ljava/lang/Object;") (by decide)
  obtain ⟨o2, g2⟩ : ∃ z, z = h0.size := ⟨_, rfl⟩
  rw [← g2] at A2 Ex2 st2
  have ne2_1 : a1 ≠ o2 := Nat.ne_of_lt (Nat.lt_of_lt_of_le E_a1.lt (Nat.le_of_eq g2.symm))
  have u2_0 := E_a1.ext E2
  have u2_1 := F_a1_chunks.ext E2
  have u2_2 := F_a1_size.ext E2
  have ge2 : n0 ≤ o2 := Nat.le_trans Z0 (Nat.le_of_eq g2.symm)
  have Z2 : n0 ≤ h2.size := Nat.le_trans Z0 E2.1
  have sz2 : h0.size ≤ o2 := Nat.le_trans K0.1 (Nat.le_of_eq g2.symm)
  have K2 := K0.ext E2
  have V2 : Arv Z h2 o2 kc2 (.array (.object "java/lang/Object")) (1 : Int32) [.null] .null := (Arv.new A2 (by decide)).pad (pad_rep [] .null 1)
  obtain ⟨T3, h3, X3, e3, W3, st3⟩ := putF X2 hx hZ hown (host := "") (Or.inl (hw _ (List.mem_of_getElem? (i := 12) rfl))) Via.refl e2 u2_1 u2_0 (Or.inl (hw _ (List.mem_of_getElem? (i := 13) rfl))) (hw _ (List.mem_of_getElem? (i := 2) rfl)) (ty := (.array (.array (.object "java/lang/Object")))) (by decide) rfl rfl (g := (mkF m 9 #[.val (.ref a1)] [(.ref o2), (.ref a1)])) rfl rfl (hb hby d1_9)
  have u3_0 := u2_0.wr W3
  have u3_1 := u2_1.same W3
  have u3_2 := u2_2.other W3 (Or.inr (slot_ne (Or.inl (hw _ (List.mem_of_getElem? (i := 23) rfl))) (Or.inl (hw _ (List.mem_of_getElem? (i := 13) rfl))) (by decide) (t := .int) (t' := (.array (.array (.object "java/lang/Object")))) (by decide) (by decide)))
  have u3_3 := Ex2.wr W3
  have u3_4 := V2.other W3 (Ne.symm ne2_1)
  have K3 := K2.wr W3 (Or.inl (List.mem_of_getElem? (i := 0) rfl))
  have Z3 : n0 ≤ h3.size := Nat.le_trans Z2 (Keep.of_wr W3).1
  have N3 := Fr.snoc X3 N0 G_a1
  obtain ⟨fs, hr, hrun, hended, hW, hsame⟩ := X3.leave (v := none) (fun _ => rfl)
  refine ⟨_, _, ?_, hrun, hended, _, _, rfl, ?_, ⟨_, rfl⟩, hW, hsame.mono (by decide) (by decide)⟩
  · show Steps p.tables e below (s₁.setTop (mkF m 0 #[.val (.ref a1)] [])) _
    refine XS.aloadN X0.here hx rfl (hb hby d1_0) rfl rfl ?_
    show Steps p.tables e below (s₁.setTop (mkF m 1 #[.val (.ref a1)] [(.ref a1)])) _
    refine st1 _ ?_
    show Steps p.tables e below (T1.setTop (mkF m 4 #[.val (.ref a1)] [])) _
    refine XS.aloadN X1.here hx rfl (hb hby d1_4) rfl rfl ?_
    show Steps p.tables e below (T1.setTop (mkF m 5 #[.val (.ref a1)] [(.ref a1)])) _
    refine XS.iconst X1.here hx rfl (hb hby d1_5) ?_
    show Steps p.tables e below (T1.setTop (mkF m 6 #[.val (.ref a1)] [(.int (1 : Int32)), (.ref a1)])) _
    refine st2 _ ?_
    show Steps p.tables e below (T2.setTop (mkF m 9 #[.val (.ref a1)] [(.ref o2), (.ref a1)])) _
    refine st3 _ ?_
    show Steps p.tables e below (T3.setTop (mkF m 12 #[.val (.ref a1)] [])) _
    exact X3.returnOut hx Bd.returns (hb hby d1_12) hr
  · show Q1 Z a1 h0 n0 _ T3.heap _
    rw [e3]
    exact ⟨o2, kc2, rfl, N3, K3, sz2, u3_4, u3_0, u3_3, u3_1, u3_2, OV2⟩
theorem d10_0 : decode prog_1_method_2_code 0 = .ok (.aload_n 0, 1) := by decide +kernel
theorem d10_1 : decode prog_1_method_2_code 1 = .ok (.getfield 15, 3) := by decide +kernel
theorem d10_4 : decode prog_1_method_2_code 4 = .ok (.bipush 12, 2) := by decide +kernel
theorem d10_6 : decode prog_1_method_2_code 6 = .ok (.iushr, 1) := by decide +kernel
theorem d10_7 : decode prog_1_method_2_code 7 = .ok (.istore_n 2, 1) := by decide +kernel
theorem d10_8 : decode prog_1_method_2_code 8 = .ok (.iload_n 2, 1) := by decide +kernel
theorem d10_9 : decode prog_1_method_2_code 9 = .ok (.aload_n 0, 1) := by decide +kernel
theorem d10_10 : decode prog_1_method_2_code 10 = .ok (.getfield 11, 3) := by decide +kernel
theorem d10_13 : decode prog_1_method_2_code 13 = .ok (.arraylength, 1) := by decide +kernel
theorem d10_14 : decode prog_1_method_2_code 14 = .ok (.if_icmp .ne 24, 3) := by decide +kernel
theorem d10_38 : decode prog_1_method_2_code 38 = .ok (.aload_n 0, 1) := by decide +kernel
theorem d10_39 : decode prog_1_method_2_code 39 = .ok (.getfield 11, 3) := by decide +kernel
theorem d10_42 : decode prog_1_method_2_code 42 = .ok (.iload_n 2, 1) := by decide +kernel
theorem d10_43 : decode prog_1_method_2_code 43 = .ok (.aaload, 1) := by decide +kernel
theorem d10_44 : decode prog_1_method_2_code 44 = .ok (.ifnonnull 15, 3) := by decide +kernel
theorem d10_47 : decode prog_1_method_2_code 47 = .ok (.aload_n 0, 1) := by decide +kernel
theorem d10_48 : decode prog_1_method_2_code 48 = .ok (.getfield 11, 3) := by decide +kernel
theorem d10_51 : decode prog_1_method_2_code 51 = .ok (.iload_n 2, 1) := by decide +kernel
theorem d10_52 : decode prog_1_method_2_code 52 = .ok (.sipush 4096, 3) := by decide +kernel
theorem d10_55 : decode prog_1_method_2_code 55 = .ok (.anewarray 4, 3) := by decide +kernel
theorem d10_58 : decode prog_1_method_2_code 58 = .ok (.aastore, 1) := by decide +kernel
theorem d10_59 : decode prog_1_method_2_code 59 = .ok (.aload_n 0, 1) := by decide +kernel
theorem d10_60 : decode prog_1_method_2_code 60 = .ok (.getfield 11, 3) := by decide +kernel
theorem d10_63 : decode prog_1_method_2_code 63 = .ok (.iload_n 2, 1) := by decide +kernel
theorem d10_64 : decode prog_1_method_2_code 64 = .ok (.aaload, 1) := by decide +kernel
theorem d10_65 : decode prog_1_method_2_code 65 = .ok (.aload_n 0, 1) := by decide +kernel
theorem d10_66 : decode prog_1_method_2_code 66 = .ok (.getfield 15, 3) := by decide +kernel
theorem d10_69 : decode prog_1_method_2_code 69 = .ok (.sipush 4095, 3) := by decide +kernel
theorem d10_72 : decode prog_1_method_2_code 72 = .ok (.iand, 1) := by decide +kernel
theorem d10_73 : decode prog_1_method_2_code 73 = .ok (.aload_n 1, 1) := by decide +kernel
theorem d10_74 : decode prog_1_method_2_code 74 = .ok (.aastore, 1) := by decide +kernel
theorem d10_75 : decode prog_1_method_2_code 75 = .ok (.aload_n 0, 1) := by decide +kernel
theorem d10_76 : decode prog_1_method_2_code 76 = .ok (.dup, 1) := by decide +kernel
theorem d10_77 : decode prog_1_method_2_code 77 = .ok (.getfield 15, 3) := by decide +kernel
theorem d10_80 : decode prog_1_method_2_code 80 = .ok (.iconst 1, 1) := by decide +kernel
theorem d10_81 : decode prog_1_method_2_code 81 = .ok (.iadd, 1) := by decide +kernel
theorem d10_82 : decode prog_1_method_2_code 82 = .ok (.putfield 15, 3) := by decide +kernel
theorem d10_85 : decode prog_1_method_2_code 85 = .ok (.return_, 1) := by decide +kernel
theorem pn_add0 : plainName "com/example/apportion/apportion/AppendOnlyList" = true := by first | (simp [plainName, overriddenIn]; done) | decide +kernel
theorem ef_add0 (m : MethodId) (a1 : Addr) (a2 : Addr) : entryFrame m #[(.ref a1), (.ref a2)] 3 = mkF m 0 #[.val (.ref a1), .val (.ref a2), .unset] [] := by first | (simp [entryFrame, mkF, argsToLocals, Value.category]; done) | rfl
def Qadd0 (Z : State) (a1 : Addr) (a2 : Addr) (t1 : Addr) (k1 : ClassId) (h0 : Heap) (n0 : Nat) (v : Option Value) (h : Heap) (L : List Loc) : Prop := ∃ (t2 : Addr), ∃ (k_t2 : ClassId), v = none ∧ Fr n0 L ∧ Keep h0 h [a1, t1] ∧ h0.size ≤ t2 ∧ (Arv Z h t1 k1 (.array (.object "java/lang/Object")) (1 : Int32) [(.ref t2)] .null) ∧ (Arv Z h t2 k_t2 (.object "java/lang/Object") (4096 : Int32) [(.ref a2), .null, .null] .null) ∧ (Exa Z h a1 "com/example/apportion/apportion/AppendOnlyList") ∧ (Exa Z h t1 "[[Ljava/lang/Object;") ∧ (Exa Z h t2 "[Ljava/lang/Object;") ∧ (Fld Z h a1 "com/example/apportion/apportion/AppendOnlyList" "chunks" "[[Ljava/lang/Object;" (.ref t1)) ∧ (Fld Z h a1 "com/example/apportion/apportion/AppendOnlyList" "size" "I" (.int (1 : Int32))) ∧ (Ovr Z k_t2 "java/lang/Object")
set_option maxRecDepth 65536 in
set_option maxHeartbeats 40000000 in
theorem rmadd0 (l : Launch) (Z : State) (a0 : Array Value) (hw : ∀ d ∈ tables_1, d.before a0 Z = true) (ws : List Jvm.Cond) (a1 : Addr) (a2 : Addr) (t1 : Addr) (k1 : ClassId) (h0 : Heap) (n0 : Nat) (Z0 : n0 ≤ h0.size) (E_a1 : Exa Z h0 a1 "com/example/apportion/apportion/AppendOnlyList") (G_a1 : n0 ≤ a1) (F_a1_chunks : Fld Z h0 a1 "com/example/apportion/apportion/AppendOnlyList" "chunks" "[[Ljava/lang/Object;" (.ref t1)) (F_a1_size : Fld Z h0 a1 "com/example/apportion/apportion/AppendOnlyList" "size" "I" (.int (0 : Int32))) (A_t1 : Arv Z h0 t1 k1 (.array (.object "java/lang/Object")) (1 : Int32) [.null] .null) (E_t1 : Exa Z h0 t1 "[[Ljava/lang/Object;") (G_t1 : n0 ≤ t1) (OV_k1 : OvrA Z k1 (.object "java/lang/Object") "[Ljava/lang/Object;") (E_a2 : Exa Z h0 a2 "java/lang/Integer") :
    MetFree l (⟨"com/example/apportion/apportion/AppendOnlyList", "add", "(Ljava/lang/Object;)V"⟩ : MethodName) (head1 (Jvm.Cond.code (⟨"com/example/apportion/apportion/AppendOnlyList", "add", "(Ljava/lang/Object;)V"⟩ : MethodName) prog_1_method_2_code 3 none :: ws) ({ frames := 0, cells := 1, slots := 4096, locals := 0 } : Room)) (fun a U => a = #[(.ref a1), (.ref a2)] ∧ Z.Warmed39 U.vm ∧ U.heap = h0) (fun _ _ _ _ _ => True) (fun _ U o U' => ∃ v L, o = .returned v ∧ Qadd0 Z a1 a2 t1 k1 h0 n0 v U'.heap L ∧ FrameEnd U o U' L ({ frames := 0, cells := 1, slots := 4096, locals := 0 } : Room).cells ({ frames := 0, cells := 1, slots := 4096, locals := 0 } : Room).slots) := by
  refine MetFree.of_bodySF (plainFor_of_name pn_add0) hisR ?_
  intro p e s m args below meth c s₁ Bd hml0 hP hK
  obtain ⟨rfl, hZ, hh⟩ := hP
  have hx := Bd.exec
  have hby := Bd.bytes
  have hml : c.maxLocals = 3 := hml0
  have hown : s.vm.findClass "com/example/apportion/apportion/AppendOnlyList" = some m.cls := findClass_of_methodNamed Bd.named
  have hnm := (name_of_methodNamed Bd.named Bd.method).1
  have X0 : Stand p l e ({ frames := 0, cells := 1, slots := 4096, locals := 0 } : Room) s m #[(.ref a1), (.ref a2)] below meth c s₁ [] 0 0 := Stand.of_body Bd
  have e0 : s₁.heap = h0 := by rw [← hh, Bd.state]; rfl
  have N0 := Fr.nil n0
  have pre0 : ∀ t, Steps p.tables e below (s₁.setTop (mkF m 0 #[.val (.ref a1), .val (.ref a2), .unset] [])) t → Steps p.tables e below (s₁.setTop (entryFrame m #[(.ref a1), (.ref a2)] 3)) t := fun t k => castTop (ef_add0 m a1 a2) k
  refine own_step (Q := fun o U' => ∃ v L, o = .returned v ∧ Qadd0 Z a1 a2 t1 k1 h0 n0 v U'.heap L ∧ FrameEnd s o U' L ({ frames := 0, cells := 1, slots := 4096, locals := 0 } : Room).cells ({ frames := 0, cells := 1, slots := 4096, locals := 0 } : Room).slots) pre0 ?_
  have K0 : Keep h0 h0 [a1, t1] := Keep.refl h0 [a1, t1]
  obtain ⟨T1, X1, e1, st1⟩ := getF X0 hx hZ hown (host := "") (Or.inl (hw _ (List.mem_of_getElem? (i := 22) rfl))) Via.refl e0 F_a1_size (g := (mkF m 1 #[.val (.ref a1), .val (.ref a2), .unset] [(.ref a1)])) rfl rfl (hb hby d10_1)
  obtain ⟨T2, X2, e2, st2⟩ := getF X1 hx hZ hown (host := "") (Or.inl (hw _ (List.mem_of_getElem? (i := 12) rfl))) Via.refl e1 F_a1_chunks (g := (mkF m 10 #[.val (.ref a1), .val (.ref a2), .val (.int (0 : Int32))] [(.ref a1), (.int (0 : Int32))])) rfl rfl (hb hby d10_10)
  obtain ⟨cl3, Ar3, -, S3, M3, -, -⟩ := id A_t1
  have h4 : ¬ ((0 : Int32) = (1 : Int32)) := by decide
  obtain ⟨T5, X5, e5, st5⟩ := getF X2 hx hZ hown (host := "") (Or.inl (hw _ (List.mem_of_getElem? (i := 12) rfl))) Via.refl e2 F_a1_chunks (g := (mkF m 39 #[.val (.ref a1), .val (.ref a2), .val (.int (0 : Int32))] [(.ref a1)])) rfl rfl (hb hby d10_39)
  obtain ⟨cl6, Ar6, -, S6, M6, H6, -⟩ := id A_t1
  have hin6 := inb_of (j := (0 : Int32)) S6 (by decide)
  have hat6 := H6.at hin6 (v := .null) (rfl)
  obtain ⟨T7, X7, e7, st7⟩ := getF X5 hx hZ hown (host := "") (Or.inl (hw _ (List.mem_of_getElem? (i := 12) rfl))) Via.refl e5 F_a1_chunks (g := (mkF m 48 #[.val (.ref a1), .val (.ref a2), .val (.int (0 : Int32))] [(.ref a1)])) rfl rfl (hb hby d10_48)
  obtain ⟨T8, h8, kc8, X8, e8, E8, A8, Ex8, OV8, st8⟩ := newRE X7 hx hZ hown (hw _ (List.mem_of_getElem? (i := 75) rfl)) (hw _ (List.mem_of_getElem? (i := 76) rfl)) e7 (g := (mkF m 55 #[.val (.ref a1), .val (.ref a2), .val (.int (0 : Int32))] [(.int (4096 : Int32)), (.int (0 : Int32)), (.ref t1)])) rfl (hb hby d10_55) (n := (4096 : Int32)) (rest := [(.int (0 : Int32)), (.ref t1)]) rfl (by decide) (cap := 4096) (by decide) (by decide) (by decide) (by decide) (ad := "[Ljava/lang/Object;") (by decide)
  obtain ⟨o8, g8⟩ : ∃ z, z = h0.size := ⟨_, rfl⟩
  rw [← g8] at A8 Ex8 st8
  have ne8_1 : a1 ≠ o8 := Nat.ne_of_lt (Nat.lt_of_lt_of_le E_a1.lt (Nat.le_of_eq g8.symm))
  have ne8_2 : t1 ≠ o8 := Nat.ne_of_lt (Nat.lt_of_lt_of_le A_t1.lt (Nat.le_of_eq g8.symm))
  have ne8_3 : a2 ≠ o8 := Nat.ne_of_lt (Nat.lt_of_lt_of_le E_a2.lt (Nat.le_of_eq g8.symm))
  have u8_0 := E_a1.ext E8
  have u8_1 := F_a1_chunks.ext E8
  have u8_2 := F_a1_size.ext E8
  have u8_3 := A_t1.ext E8
  have u8_4 := E_t1.ext E8
  have u8_5 := E_a2.ext E8
  have ge8 : n0 ≤ o8 := Nat.le_trans Z0 (Nat.le_of_eq g8.symm)
  have Z8 : n0 ≤ h8.size := Nat.le_trans Z0 E8.1
  have sz8 : h0.size ≤ o8 := Nat.le_trans K0.1 (Nat.le_of_eq g8.symm)
  have K8 := K0.ext E8
  have V8 : Arv Z h8 o8 kc8 (.object "java/lang/Object") (4096 : Int32) [.null, .null, .null] .null := (Arv.new A8 (by decide)).pad (pad_rep [] .null 3)
  obtain ⟨cl9, Ar9, q9, S9, M9, H9, G9⟩ := id u8_3
  obtain ⟨T9, h9, X9, e9, W9, st9⟩ := stR X8 hx hZ e8 Ar9 (j := (0 : Int32)) (inb_of S9 (by decide)) rfl (Sto.ofVA Ar9 q9 OV_k1 (Ins.self Ex8)) (g := (mkF m 58 #[.val (.ref a1), .val (.ref a2), .val (.int (0 : Int32))] [(.ref o8), (.int (0 : Int32)), (.ref t1)])) rfl rfl (hb hby d10_58)
  have u9_0 := u8_0.wr W9
  have u9_1 := u8_1.other W9 (Or.inl (ne_exa u8_0 u8_4 (by decide)))
  have u9_2 := u8_2.other W9 (Or.inl (ne_exa u8_0 u8_4 (by decide)))
  have u9_4 := u8_4.wr W9
  have u9_5 := u8_5.wr W9
  have u9_6 := Ex8.wr W9
  have u9_7 := V8.other W9 (Ne.symm ne8_2)
  have K9 := K8.wr W9 (Or.inl (List.mem_of_getElem? (i := 1) rfl))
  have Z9 : n0 ≤ h9.size := Nat.le_trans Z8 (Keep.of_wr W9).1
  have N9 := Fr.snoc X9 N0 G_t1
  have V9 : Arv Z h9 t1 k1 (.array (.object "java/lang/Object")) (1 : Int32) [(.ref o8)] .null := Arv.set Ar9 q9 S9 M9 H9 G9 rfl W9 0 rfl (by show 0 < 1; decide)
  obtain ⟨T10, X10, e10, st10⟩ := getF X9 hx hZ hown (host := "") (Or.inl (hw _ (List.mem_of_getElem? (i := 12) rfl))) Via.refl e9 u9_1 (g := (mkF m 60 #[.val (.ref a1), .val (.ref a2), .val (.int (0 : Int32))] [(.ref a1)])) rfl rfl (hb hby d10_60)
  obtain ⟨cl11, Ar11, -, S11, M11, H11, -⟩ := id V9
  have hin11 := inb_of (j := (0 : Int32)) S11 (by decide)
  have hat11 := H11.at hin11 (v := (.ref o8)) (rfl)
  obtain ⟨T12, X12, e12, st12⟩ := getF X10 hx hZ hown (host := "") (Or.inl (hw _ (List.mem_of_getElem? (i := 22) rfl))) Via.refl e10 u9_2 (g := (mkF m 66 #[.val (.ref a1), .val (.ref a2), .val (.int (0 : Int32))] [(.ref a1), (.ref o8)])) rfl rfl (hb hby d10_66)
  obtain ⟨cl13, Ar13, q13, S13, M13, H13, G13⟩ := id u9_7
  obtain ⟨T13, h13, X13, e13, W13, st13⟩ := stR X12 hx hZ e12 Ar13 (j := (0 : Int32)) (inb_of S13 (by decide)) rfl (Sto.ofV Ar13 q13 OV8 (Ins.of_exa u9_5 (hw _ (List.mem_of_getElem? (i := 78) rfl)))) (g := (mkF m 74 #[.val (.ref a1), .val (.ref a2), .val (.int (0 : Int32))] [(.ref a2), (.int (0 : Int32)), (.ref o8)])) rfl rfl (hb hby d10_74)
  have u13_0 := u9_0.wr W13
  have u13_1 := u9_1.other W13 (Or.inl ne8_1)
  have u13_2 := u9_2.other W13 (Or.inl ne8_1)
  have u13_3 := V9.other W13 ne8_2
  have u13_4 := u9_4.wr W13
  have u13_5 := u9_5.wr W13
  have u13_6 := u9_6.wr W13
  have K13 := K9.wr W13 (Or.inr sz8)
  have Z13 : n0 ≤ h13.size := Nat.le_trans Z9 (Keep.of_wr W13).1
  have N13 := Fr.snoc X13 N9 ge8
  have V13 : Arv Z h13 o8 kc8 (.object "java/lang/Object") (4096 : Int32) [(.ref a2), .null, .null] .null := Arv.set Ar13 q13 S13 M13 H13 G13 rfl W13 0 rfl (by show 0 < 3; decide)
  obtain ⟨T14, X14, e14, st14⟩ := getF X13 hx hZ hown (host := "") (Or.inl (hw _ (List.mem_of_getElem? (i := 22) rfl))) Via.refl e13 u13_2 (g := (mkF m 77 #[.val (.ref a1), .val (.ref a2), .val (.int (0 : Int32))] [(.ref a1), (.ref a1)])) rfl rfl (hb hby d10_77)
  obtain ⟨T15, h15, X15, e15, W15, st15⟩ := putF X14 hx hZ hown (host := "") (Or.inl (hw _ (List.mem_of_getElem? (i := 22) rfl))) Via.refl e14 u13_2 u13_0 (Or.inl (hw _ (List.mem_of_getElem? (i := 23) rfl))) (hw _ (List.mem_of_getElem? (i := 2) rfl)) (ty := .int) (by decide) rfl rfl (g := (mkF m 82 #[.val (.ref a1), .val (.ref a2), .val (.int (0 : Int32))] [(.int (1 : Int32)), (.ref a1)])) rfl rfl (hb hby d10_82)
  have u15_0 := u13_0.wr W15
  have u15_1 := u13_1.other W15 (Or.inr (slot_ne (Or.inl (hw _ (List.mem_of_getElem? (i := 13) rfl))) (Or.inl (hw _ (List.mem_of_getElem? (i := 23) rfl))) (by decide) (t := (.array (.array (.object "java/lang/Object")))) (t' := .int) (by decide) (by decide)))
  have u15_2 := u13_2.same W15
  have u15_3 := u13_3.other W15 (ne_exa u13_4 u13_0 (by decide))
  have u15_4 := u13_4.wr W15
  have u15_5 := u13_5.wr W15
  have u15_6 := u13_6.wr W15
  have u15_7 := V13.other W15 (Ne.symm ne8_1)
  have K15 := K13.wr W15 (Or.inl (List.mem_of_getElem? (i := 0) rfl))
  have Z15 : n0 ≤ h15.size := Nat.le_trans Z13 (Keep.of_wr W15).1
  have N15 := Fr.snoc X15 N13 G_a1
  obtain ⟨fs, hr, hrun, hended, hW, hsame⟩ := X15.leave (v := none) (fun _ => rfl)
  refine ⟨_, _, ?_, hrun, hended, _, _, rfl, ?_, ⟨_, rfl⟩, hW, hsame.mono (by decide) (by decide)⟩
  · show Steps p.tables e below (s₁.setTop (mkF m 0 #[.val (.ref a1), .val (.ref a2), .unset] [])) _
    refine XS.aloadN X0.here hx rfl (hb hby d10_0) rfl rfl ?_
    show Steps p.tables e below (s₁.setTop (mkF m 1 #[.val (.ref a1), .val (.ref a2), .unset] [(.ref a1)])) _
    refine st1 _ ?_
    show Steps p.tables e below (T1.setTop (mkF m 4 #[.val (.ref a1), .val (.ref a2), .unset] [(.int (0 : Int32))])) _
    refine XS.bipush X1.here hx rfl (hb hby d10_4) ?_
    show Steps p.tables e below (T1.setTop (mkF m 6 #[.val (.ref a1), .val (.ref a2), .unset] [(.int (12 : Int32)), (.int (0 : Int32))])) _
    refine XT.iushr X1.here hx rfl (hb hby d10_6) rfl ?_
    show Steps p.tables e below (T1.setTop (mkF m 7 #[.val (.ref a1), .val (.ref a2), .unset] [(.int (0 : Int32))])) _
    refine XS.istoreN X1.here hx rfl (hb hby d10_7) rfl (l' := #[.val (.ref a1), .val (.ref a2), .val (.int (0 : Int32))]) rfl ?_
    show Steps p.tables e below (T1.setTop (mkF m 8 #[.val (.ref a1), .val (.ref a2), .val (.int (0 : Int32))] [])) _
    refine XS.iloadN X1.here hx rfl (hb hby d10_8) rfl ?_
    show Steps p.tables e below (T1.setTop (mkF m 9 #[.val (.ref a1), .val (.ref a2), .val (.int (0 : Int32))] [(.int (0 : Int32))])) _
    refine XS.aloadN X1.here hx rfl (hb hby d10_9) rfl rfl ?_
    show Steps p.tables e below (T1.setTop (mkF m 10 #[.val (.ref a1), .val (.ref a2), .val (.int (0 : Int32))] [(.ref a1), (.int (0 : Int32))])) _
    refine st2 _ ?_
    show Steps p.tables e below (T2.setTop (mkF m 13 #[.val (.ref a1), .val (.ref a2), .val (.int (0 : Int32))] [(.ref t1), (.int (0 : Int32))])) _
    refine X2.arraylength hx (by rw [e2]; exact Ar3.1) (State.isArrayOf_alike hZ.alike Ar3.2.1) (g := (mkF m 13 #[.val (.ref a1), .val (.ref a2), .val (.int (0 : Int32))] [(.ref t1), (.int (0 : Int32))])) rfl rfl (hb hby d10_13) _ ?_
    rw [len_of S3 M3]
    show Steps p.tables e below (T2.setTop (mkF m 14 #[.val (.ref a1), .val (.ref a2), .val (.int (0 : Int32))] [(.int (1 : Int32)), (.int (0 : Int32))])) _
    refine XS.icmpYes X2.here hx rfl (pc0 := 14) (pc' := 38) rfl (hb hby d10_14) rfl (feq h4).2 (by decide) (by decide) ?_
    show Steps p.tables e below (T2.setTop (mkF m 38 #[.val (.ref a1), .val (.ref a2), .val (.int (0 : Int32))] [])) _
    refine XS.aloadN X2.here hx rfl (hb hby d10_38) rfl rfl ?_
    show Steps p.tables e below (T2.setTop (mkF m 39 #[.val (.ref a1), .val (.ref a2), .val (.int (0 : Int32))] [(.ref a1)])) _
    refine st5 _ ?_
    show Steps p.tables e below (T5.setTop (mkF m 42 #[.val (.ref a1), .val (.ref a2), .val (.int (0 : Int32))] [(.ref t1)])) _
    refine XS.iloadN X5.here hx rfl (hb hby d10_42) rfl ?_
    show Steps p.tables e below (T5.setTop (mkF m 43 #[.val (.ref a1), .val (.ref a2), .val (.int (0 : Int32))] [(.int (0 : Int32)), (.ref t1)])) _
    refine X5.aaload hx (j := (0 : Int32)) (v := .null) (by rw [e5]; exact Ar6.1) (State.isArrayOf_alike hZ.alike Ar6.2.1) rfl Ar6.2.2 hin6 hat6 (g := (mkF m 43 #[.val (.ref a1), .val (.ref a2), .val (.int (0 : Int32))] [(.int (0 : Int32)), (.ref t1)])) rfl rfl (hb hby d10_43) _ ?_
    show Steps p.tables e below (T5.setTop (mkF m 44 #[.val (.ref a1), .val (.ref a2), .val (.int (0 : Int32))] [.null])) _
    refine XT.ifnonnullNo X5.here hx rfl (hb hby d10_44) rfl ?_
    show Steps p.tables e below (T5.setTop (mkF m 47 #[.val (.ref a1), .val (.ref a2), .val (.int (0 : Int32))] [])) _
    refine XS.aloadN X5.here hx rfl (hb hby d10_47) rfl rfl ?_
    show Steps p.tables e below (T5.setTop (mkF m 48 #[.val (.ref a1), .val (.ref a2), .val (.int (0 : Int32))] [(.ref a1)])) _
    refine st7 _ ?_
    show Steps p.tables e below (T7.setTop (mkF m 51 #[.val (.ref a1), .val (.ref a2), .val (.int (0 : Int32))] [(.ref t1)])) _
    refine XS.iloadN X7.here hx rfl (hb hby d10_51) rfl ?_
    show Steps p.tables e below (T7.setTop (mkF m 52 #[.val (.ref a1), .val (.ref a2), .val (.int (0 : Int32))] [(.int (0 : Int32)), (.ref t1)])) _
    refine XS.sipush X7.here hx rfl (hb hby d10_52) ?_
    show Steps p.tables e below (T7.setTop (mkF m 55 #[.val (.ref a1), .val (.ref a2), .val (.int (0 : Int32))] [(.int (4096 : Int32)), (.int (0 : Int32)), (.ref t1)])) _
    refine st8 _ ?_
    show Steps p.tables e below (T8.setTop (mkF m 58 #[.val (.ref a1), .val (.ref a2), .val (.int (0 : Int32))] [(.ref o8), (.int (0 : Int32)), (.ref t1)])) _
    refine st9 _ ?_
    show Steps p.tables e below (T9.setTop (mkF m 59 #[.val (.ref a1), .val (.ref a2), .val (.int (0 : Int32))] [])) _
    refine XS.aloadN X9.here hx rfl (hb hby d10_59) rfl rfl ?_
    show Steps p.tables e below (T9.setTop (mkF m 60 #[.val (.ref a1), .val (.ref a2), .val (.int (0 : Int32))] [(.ref a1)])) _
    refine st10 _ ?_
    show Steps p.tables e below (T10.setTop (mkF m 63 #[.val (.ref a1), .val (.ref a2), .val (.int (0 : Int32))] [(.ref t1)])) _
    refine XS.iloadN X10.here hx rfl (hb hby d10_63) rfl ?_
    show Steps p.tables e below (T10.setTop (mkF m 64 #[.val (.ref a1), .val (.ref a2), .val (.int (0 : Int32))] [(.int (0 : Int32)), (.ref t1)])) _
    refine X10.aaload hx (j := (0 : Int32)) (v := (.ref o8)) (by rw [e10]; exact Ar11.1) (State.isArrayOf_alike hZ.alike Ar11.2.1) rfl Ar11.2.2 hin11 hat11 (g := (mkF m 64 #[.val (.ref a1), .val (.ref a2), .val (.int (0 : Int32))] [(.int (0 : Int32)), (.ref t1)])) rfl rfl (hb hby d10_64) _ ?_
    show Steps p.tables e below (T10.setTop (mkF m 65 #[.val (.ref a1), .val (.ref a2), .val (.int (0 : Int32))] [(.ref o8)])) _
    refine XS.aloadN X10.here hx rfl (hb hby d10_65) rfl rfl ?_
    show Steps p.tables e below (T10.setTop (mkF m 66 #[.val (.ref a1), .val (.ref a2), .val (.int (0 : Int32))] [(.ref a1), (.ref o8)])) _
    refine st12 _ ?_
    show Steps p.tables e below (T12.setTop (mkF m 69 #[.val (.ref a1), .val (.ref a2), .val (.int (0 : Int32))] [(.int (0 : Int32)), (.ref o8)])) _
    refine XS.sipush X12.here hx rfl (hb hby d10_69) ?_
    show Steps p.tables e below (T12.setTop (mkF m 72 #[.val (.ref a1), .val (.ref a2), .val (.int (0 : Int32))] [(.int (4095 : Int32)), (.int (0 : Int32)), (.ref o8)])) _
    refine XS.iand X12.here hx rfl (hb hby d10_72) rfl ?_
    show Steps p.tables e below (T12.setTop (mkF m 73 #[.val (.ref a1), .val (.ref a2), .val (.int (0 : Int32))] [(.int (0 : Int32)), (.ref o8)])) _
    refine XS.aloadN X12.here hx rfl (hb hby d10_73) rfl rfl ?_
    show Steps p.tables e below (T12.setTop (mkF m 74 #[.val (.ref a1), .val (.ref a2), .val (.int (0 : Int32))] [(.ref a2), (.int (0 : Int32)), (.ref o8)])) _
    refine st13 _ ?_
    show Steps p.tables e below (T13.setTop (mkF m 75 #[.val (.ref a1), .val (.ref a2), .val (.int (0 : Int32))] [])) _
    refine XS.aloadN X13.here hx rfl (hb hby d10_75) rfl rfl ?_
    show Steps p.tables e below (T13.setTop (mkF m 76 #[.val (.ref a1), .val (.ref a2), .val (.int (0 : Int32))] [(.ref a1)])) _
    refine XS.dup X13.here hx rfl (hb hby d10_76) rfl rfl ?_
    show Steps p.tables e below (T13.setTop (mkF m 77 #[.val (.ref a1), .val (.ref a2), .val (.int (0 : Int32))] [(.ref a1), (.ref a1)])) _
    refine st14 _ ?_
    show Steps p.tables e below (T14.setTop (mkF m 80 #[.val (.ref a1), .val (.ref a2), .val (.int (0 : Int32))] [(.int (0 : Int32)), (.ref a1)])) _
    refine XS.iconst X14.here hx rfl (hb hby d10_80) ?_
    show Steps p.tables e below (T14.setTop (mkF m 81 #[.val (.ref a1), .val (.ref a2), .val (.int (0 : Int32))] [(.int (1 : Int32)), (.int (0 : Int32)), (.ref a1)])) _
    refine XS.iadd X14.here hx rfl (hb hby d10_81) rfl ?_
    show Steps p.tables e below (T14.setTop (mkF m 82 #[.val (.ref a1), .val (.ref a2), .val (.int (0 : Int32))] [(.int (1 : Int32)), (.ref a1)])) _
    refine st15 _ ?_
    show Steps p.tables e below (T15.setTop (mkF m 85 #[.val (.ref a1), .val (.ref a2), .val (.int (0 : Int32))] [])) _
    exact X15.returnOut hx Bd.returns (hb hby d10_85) hr
  · show Qadd0 Z a1 a2 t1 k1 h0 n0 _ T15.heap _
    rw [e15]
    exact ⟨o8, kc8, rfl, N15, K15, sz8, u15_3, u15_7, u15_0, u15_4, u15_6, u15_1, u15_2, OV8⟩
theorem pn_add1 : plainName "com/example/apportion/apportion/AppendOnlyList" = true := by first | (simp [plainName, overriddenIn]; done) | decide +kernel
theorem ef_add1 (m : MethodId) (a1 : Addr) (a2 : Addr) : entryFrame m #[(.ref a1), (.ref a2)] 3 = mkF m 0 #[.val (.ref a1), .val (.ref a2), .unset] [] := by first | (simp [entryFrame, mkF, argsToLocals, Value.category]; done) | rfl
def Qadd1 (Z : State) (a1 : Addr) (a2 : Addr) (t1 : Addr) (k1 : ClassId) (t2 : Addr) (k2 : ClassId) (v0 : Value) (h0 : Heap) (n0 : Nat) (v : Option Value) (h : Heap) (L : List Loc) : Prop := v = none ∧ Fr n0 L ∧ Keep h0 h [a1, t2] ∧ (Arv Z h t2 k2 (.object "java/lang/Object") (4096 : Int32) [v0, (.ref a2), .null] .null) ∧ (Exa Z h a1 "com/example/apportion/apportion/AppendOnlyList") ∧ (Exa Z h t2 "[Ljava/lang/Object;") ∧ (Fld Z h a1 "com/example/apportion/apportion/AppendOnlyList" "chunks" "[[Ljava/lang/Object;" (.ref t1)) ∧ (Fld Z h a1 "com/example/apportion/apportion/AppendOnlyList" "size" "I" (.int (2 : Int32)))
set_option maxRecDepth 65536 in
set_option maxHeartbeats 40000000 in
theorem rmadd1 (l : Launch) (Z : State) (a0 : Array Value) (hw : ∀ d ∈ tables_1, d.before a0 Z = true) (ws : List Jvm.Cond) (a1 : Addr) (a2 : Addr) (t1 : Addr) (k1 : ClassId) (t2 : Addr) (k2 : ClassId) (v0 : Value) (h0 : Heap) (n0 : Nat) (Z0 : n0 ≤ h0.size) (E_a1 : Exa Z h0 a1 "com/example/apportion/apportion/AppendOnlyList") (G_a1 : n0 ≤ a1) (F_a1_chunks : Fld Z h0 a1 "com/example/apportion/apportion/AppendOnlyList" "chunks" "[[Ljava/lang/Object;" (.ref t1)) (F_a1_size : Fld Z h0 a1 "com/example/apportion/apportion/AppendOnlyList" "size" "I" (.int (1 : Int32))) (A_t1 : Arv Z h0 t1 k1 (.array (.object "java/lang/Object")) (1 : Int32) [(.ref t2)] .null) (E_t1 : Exa Z h0 t1 "[[Ljava/lang/Object;") (G_t1 : n0 ≤ t1) (OV_k1 : OvrA Z k1 (.object "java/lang/Object") "[Ljava/lang/Object;") (E_a2 : Exa Z h0 a2 "java/lang/Integer") (A_t2 : Arv Z h0 t2 k2 (.object "java/lang/Object") (4096 : Int32) [v0, .null, .null] .null) (E_t2 : Exa Z h0 t2 "[Ljava/lang/Object;") (G_t2 : n0 ≤ t2) (OV_k2 : Ovr Z k2 "java/lang/Object") :
    MetFree l (⟨"com/example/apportion/apportion/AppendOnlyList", "add", "(Ljava/lang/Object;)V"⟩ : MethodName) (head1 (Jvm.Cond.code (⟨"com/example/apportion/apportion/AppendOnlyList", "add", "(Ljava/lang/Object;)V"⟩ : MethodName) prog_1_method_2_code 3 none :: ws) ({ frames := 0, cells := 0, slots := 0, locals := 0 } : Room)) (fun a U => a = #[(.ref a1), (.ref a2)] ∧ Z.Warmed39 U.vm ∧ U.heap = h0) (fun _ _ _ _ _ => True) (fun _ U o U' => ∃ v L, o = .returned v ∧ Qadd1 Z a1 a2 t1 k1 t2 k2 v0 h0 n0 v U'.heap L ∧ FrameEnd U o U' L ({ frames := 0, cells := 0, slots := 0, locals := 0 } : Room).cells ({ frames := 0, cells := 0, slots := 0, locals := 0 } : Room).slots) := by
  refine MetFree.of_bodySF (plainFor_of_name pn_add1) hisR ?_
  intro p e s m args below meth c s₁ Bd hml0 hP hK
  obtain ⟨rfl, hZ, hh⟩ := hP
  have hx := Bd.exec
  have hby := Bd.bytes
  have hml : c.maxLocals = 3 := hml0
  have hown : s.vm.findClass "com/example/apportion/apportion/AppendOnlyList" = some m.cls := findClass_of_methodNamed Bd.named
  have hnm := (name_of_methodNamed Bd.named Bd.method).1
  have X0 : Stand p l e ({ frames := 0, cells := 0, slots := 0, locals := 0 } : Room) s m #[(.ref a1), (.ref a2)] below meth c s₁ [] 0 0 := Stand.of_body Bd
  have e0 : s₁.heap = h0 := by rw [← hh, Bd.state]; rfl
  have N0 := Fr.nil n0
  have pre0 : ∀ t, Steps p.tables e below (s₁.setTop (mkF m 0 #[.val (.ref a1), .val (.ref a2), .unset] [])) t → Steps p.tables e below (s₁.setTop (entryFrame m #[(.ref a1), (.ref a2)] 3)) t := fun t k => castTop (ef_add1 m a1 a2) k
  refine own_step (Q := fun o U' => ∃ v L, o = .returned v ∧ Qadd1 Z a1 a2 t1 k1 t2 k2 v0 h0 n0 v U'.heap L ∧ FrameEnd s o U' L ({ frames := 0, cells := 0, slots := 0, locals := 0 } : Room).cells ({ frames := 0, cells := 0, slots := 0, locals := 0 } : Room).slots) pre0 ?_
  have K0 : Keep h0 h0 [a1, t2] := Keep.refl h0 [a1, t2]
  obtain ⟨T1, X1, e1, st1⟩ := getF X0 hx hZ hown (host := "") (Or.inl (hw _ (List.mem_of_getElem? (i := 22) rfl))) Via.refl e0 F_a1_size (g := (mkF m 1 #[.val (.ref a1), .val (.ref a2), .unset] [(.ref a1)])) rfl rfl (hb hby d10_1)
  obtain ⟨T2, X2, e2, st2⟩ := getF X1 hx hZ hown (host := "") (Or.inl (hw _ (List.mem_of_getElem? (i := 12) rfl))) Via.refl e1 F_a1_chunks (g := (mkF m 10 #[.val (.ref a1), .val (.ref a2), .val (.int (0 : Int32))] [(.ref a1), (.int (0 : Int32))])) rfl rfl (hb hby d10_10)
  obtain ⟨cl3, Ar3, -, S3, M3, -, -⟩ := id A_t1
  have h4 : ¬ ((0 : Int32) = (1 : Int32)) := by decide
  obtain ⟨T5, X5, e5, st5⟩ := getF X2 hx hZ hown (host := "") (Or.inl (hw _ (List.mem_of_getElem? (i := 12) rfl))) Via.refl e2 F_a1_chunks (g := (mkF m 39 #[.val (.ref a1), .val (.ref a2), .val (.int (0 : Int32))] [(.ref a1)])) rfl rfl (hb hby d10_39)
  obtain ⟨cl6, Ar6, -, S6, M6, H6, -⟩ := id A_t1
  have hin6 := inb_of (j := (0 : Int32)) S6 (by decide)
  have hat6 := H6.at hin6 (v := (.ref t2)) (rfl)
  obtain ⟨T7, X7, e7, st7⟩ := getF X5 hx hZ hown (host := "") (Or.inl (hw _ (List.mem_of_getElem? (i := 12) rfl))) Via.refl e5 F_a1_chunks (g := (mkF m 60 #[.val (.ref a1), .val (.ref a2), .val (.int (0 : Int32))] [(.ref a1)])) rfl rfl (hb hby d10_60)
  obtain ⟨cl8, Ar8, -, S8, M8, H8, -⟩ := id A_t1
  have hin8 := inb_of (j := (0 : Int32)) S8 (by decide)
  have hat8 := H8.at hin8 (v := (.ref t2)) (rfl)
  obtain ⟨T9, X9, e9, st9⟩ := getF X7 hx hZ hown (host := "") (Or.inl (hw _ (List.mem_of_getElem? (i := 22) rfl))) Via.refl e7 F_a1_size (g := (mkF m 66 #[.val (.ref a1), .val (.ref a2), .val (.int (0 : Int32))] [(.ref a1), (.ref t2)])) rfl rfl (hb hby d10_66)
  obtain ⟨cl10, Ar10, q10, S10, M10, H10, G10⟩ := id A_t2
  obtain ⟨T10, h10, X10, e10, W10, st10⟩ := stR X9 hx hZ e9 Ar10 (j := (1 : Int32)) (inb_of S10 (by decide)) rfl (Sto.ofV Ar10 q10 OV_k2 (Ins.of_exa E_a2 (hw _ (List.mem_of_getElem? (i := 78) rfl)))) (g := (mkF m 74 #[.val (.ref a1), .val (.ref a2), .val (.int (0 : Int32))] [(.ref a2), (.int (1 : Int32)), (.ref t2)])) rfl rfl (hb hby d10_74)
  have u10_0 := E_a1.wr W10
  have u10_1 := F_a1_chunks.other W10 (Or.inl (ne_exa E_a1 E_t2 (by decide)))
  have u10_2 := F_a1_size.other W10 (Or.inl (ne_exa E_a1 E_t2 (by decide)))
  have u10_3 := A_t1.other W10 (ne_exa E_t1 E_t2 (by decide))
  have u10_4 := E_t1.wr W10
  have u10_5 := E_a2.wr W10
  have u10_7 := E_t2.wr W10
  have K10 := K0.wr W10 (Or.inl (List.mem_of_getElem? (i := 1) rfl))
  have Z10 : n0 ≤ h10.size := Nat.le_trans Z0 (Keep.of_wr W10).1
  have N10 := Fr.snoc X10 N0 G_t2
  have V10 : Arv Z h10 t2 k2 (.object "java/lang/Object") (4096 : Int32) [v0, (.ref a2), .null] .null := Arv.set Ar10 q10 S10 M10 H10 G10 rfl W10 1 rfl (by show 1 < 3; decide)
  obtain ⟨T11, X11, e11, st11⟩ := getF X10 hx hZ hown (host := "") (Or.inl (hw _ (List.mem_of_getElem? (i := 22) rfl))) Via.refl e10 u10_2 (g := (mkF m 77 #[.val (.ref a1), .val (.ref a2), .val (.int (0 : Int32))] [(.ref a1), (.ref a1)])) rfl rfl (hb hby d10_77)
  obtain ⟨T12, h12, X12, e12, W12, st12⟩ := putF X11 hx hZ hown (host := "") (Or.inl (hw _ (List.mem_of_getElem? (i := 22) rfl))) Via.refl e11 u10_2 u10_0 (Or.inl (hw _ (List.mem_of_getElem? (i := 23) rfl))) (hw _ (List.mem_of_getElem? (i := 2) rfl)) (ty := .int) (by decide) rfl rfl (g := (mkF m 82 #[.val (.ref a1), .val (.ref a2), .val (.int (0 : Int32))] [(.int (2 : Int32)), (.ref a1)])) rfl rfl (hb hby d10_82)
  have u12_0 := u10_0.wr W12
  have u12_1 := u10_1.other W12 (Or.inr (slot_ne (Or.inl (hw _ (List.mem_of_getElem? (i := 13) rfl))) (Or.inl (hw _ (List.mem_of_getElem? (i := 23) rfl))) (by decide) (t := (.array (.array (.object "java/lang/Object")))) (t' := .int) (by decide) (by decide)))
  have u12_2 := u10_2.same W12
  have u12_3 := u10_3.other W12 (ne_exa u10_4 u10_0 (by decide))
  have u12_4 := u10_4.wr W12
  have u12_5 := u10_5.wr W12
  have u12_6 := V10.other W12 (ne_exa u10_7 u10_0 (by decide))
  have u12_7 := u10_7.wr W12
  have K12 := K10.wr W12 (Or.inl (List.mem_of_getElem? (i := 0) rfl))
  have Z12 : n0 ≤ h12.size := Nat.le_trans Z10 (Keep.of_wr W12).1
  have N12 := Fr.snoc X12 N10 G_a1
  obtain ⟨fs, hr, hrun, hended, hW, hsame⟩ := X12.leave (v := none) (fun _ => rfl)
  refine ⟨_, _, ?_, hrun, hended, _, _, rfl, ?_, ⟨_, rfl⟩, hW, hsame.mono (by decide) (by decide)⟩
  · show Steps p.tables e below (s₁.setTop (mkF m 0 #[.val (.ref a1), .val (.ref a2), .unset] [])) _
    refine XS.aloadN X0.here hx rfl (hb hby d10_0) rfl rfl ?_
    show Steps p.tables e below (s₁.setTop (mkF m 1 #[.val (.ref a1), .val (.ref a2), .unset] [(.ref a1)])) _
    refine st1 _ ?_
    show Steps p.tables e below (T1.setTop (mkF m 4 #[.val (.ref a1), .val (.ref a2), .unset] [(.int (1 : Int32))])) _
    refine XS.bipush X1.here hx rfl (hb hby d10_4) ?_
    show Steps p.tables e below (T1.setTop (mkF m 6 #[.val (.ref a1), .val (.ref a2), .unset] [(.int (12 : Int32)), (.int (1 : Int32))])) _
    refine XT.iushr X1.here hx rfl (hb hby d10_6) rfl ?_
    show Steps p.tables e below (T1.setTop (mkF m 7 #[.val (.ref a1), .val (.ref a2), .unset] [(.int (0 : Int32))])) _
    refine XS.istoreN X1.here hx rfl (hb hby d10_7) rfl (l' := #[.val (.ref a1), .val (.ref a2), .val (.int (0 : Int32))]) rfl ?_
    show Steps p.tables e below (T1.setTop (mkF m 8 #[.val (.ref a1), .val (.ref a2), .val (.int (0 : Int32))] [])) _
    refine XS.iloadN X1.here hx rfl (hb hby d10_8) rfl ?_
    show Steps p.tables e below (T1.setTop (mkF m 9 #[.val (.ref a1), .val (.ref a2), .val (.int (0 : Int32))] [(.int (0 : Int32))])) _
    refine XS.aloadN X1.here hx rfl (hb hby d10_9) rfl rfl ?_
    show Steps p.tables e below (T1.setTop (mkF m 10 #[.val (.ref a1), .val (.ref a2), .val (.int (0 : Int32))] [(.ref a1), (.int (0 : Int32))])) _
    refine st2 _ ?_
    show Steps p.tables e below (T2.setTop (mkF m 13 #[.val (.ref a1), .val (.ref a2), .val (.int (0 : Int32))] [(.ref t1), (.int (0 : Int32))])) _
    refine X2.arraylength hx (by rw [e2]; exact Ar3.1) (State.isArrayOf_alike hZ.alike Ar3.2.1) (g := (mkF m 13 #[.val (.ref a1), .val (.ref a2), .val (.int (0 : Int32))] [(.ref t1), (.int (0 : Int32))])) rfl rfl (hb hby d10_13) _ ?_
    rw [len_of S3 M3]
    show Steps p.tables e below (T2.setTop (mkF m 14 #[.val (.ref a1), .val (.ref a2), .val (.int (0 : Int32))] [(.int (1 : Int32)), (.int (0 : Int32))])) _
    refine XS.icmpYes X2.here hx rfl (pc0 := 14) (pc' := 38) rfl (hb hby d10_14) rfl (feq h4).2 (by decide) (by decide) ?_
    show Steps p.tables e below (T2.setTop (mkF m 38 #[.val (.ref a1), .val (.ref a2), .val (.int (0 : Int32))] [])) _
    refine XS.aloadN X2.here hx rfl (hb hby d10_38) rfl rfl ?_
    show Steps p.tables e below (T2.setTop (mkF m 39 #[.val (.ref a1), .val (.ref a2), .val (.int (0 : Int32))] [(.ref a1)])) _
    refine st5 _ ?_
    show Steps p.tables e below (T5.setTop (mkF m 42 #[.val (.ref a1), .val (.ref a2), .val (.int (0 : Int32))] [(.ref t1)])) _
    refine XS.iloadN X5.here hx rfl (hb hby d10_42) rfl ?_
    show Steps p.tables e below (T5.setTop (mkF m 43 #[.val (.ref a1), .val (.ref a2), .val (.int (0 : Int32))] [(.int (0 : Int32)), (.ref t1)])) _
    refine X5.aaload hx (j := (0 : Int32)) (v := (.ref t2)) (by rw [e5]; exact Ar6.1) (State.isArrayOf_alike hZ.alike Ar6.2.1) rfl Ar6.2.2 hin6 hat6 (g := (mkF m 43 #[.val (.ref a1), .val (.ref a2), .val (.int (0 : Int32))] [(.int (0 : Int32)), (.ref t1)])) rfl rfl (hb hby d10_43) _ ?_
    show Steps p.tables e below (T5.setTop (mkF m 44 #[.val (.ref a1), .val (.ref a2), .val (.int (0 : Int32))] [(.ref t2)])) _
    refine XT.ifnonnullYes X5.here hx rfl (pc0 := 44) (pc' := 59) rfl (hb hby d10_44) rfl (by decide) (by decide) ?_
    show Steps p.tables e below (T5.setTop (mkF m 59 #[.val (.ref a1), .val (.ref a2), .val (.int (0 : Int32))] [])) _
    refine XS.aloadN X5.here hx rfl (hb hby d10_59) rfl rfl ?_
    show Steps p.tables e below (T5.setTop (mkF m 60 #[.val (.ref a1), .val (.ref a2), .val (.int (0 : Int32))] [(.ref a1)])) _
    refine st7 _ ?_
    show Steps p.tables e below (T7.setTop (mkF m 63 #[.val (.ref a1), .val (.ref a2), .val (.int (0 : Int32))] [(.ref t1)])) _
    refine XS.iloadN X7.here hx rfl (hb hby d10_63) rfl ?_
    show Steps p.tables e below (T7.setTop (mkF m 64 #[.val (.ref a1), .val (.ref a2), .val (.int (0 : Int32))] [(.int (0 : Int32)), (.ref t1)])) _
    refine X7.aaload hx (j := (0 : Int32)) (v := (.ref t2)) (by rw [e7]; exact Ar8.1) (State.isArrayOf_alike hZ.alike Ar8.2.1) rfl Ar8.2.2 hin8 hat8 (g := (mkF m 64 #[.val (.ref a1), .val (.ref a2), .val (.int (0 : Int32))] [(.int (0 : Int32)), (.ref t1)])) rfl rfl (hb hby d10_64) _ ?_
    show Steps p.tables e below (T7.setTop (mkF m 65 #[.val (.ref a1), .val (.ref a2), .val (.int (0 : Int32))] [(.ref t2)])) _
    refine XS.aloadN X7.here hx rfl (hb hby d10_65) rfl rfl ?_
    show Steps p.tables e below (T7.setTop (mkF m 66 #[.val (.ref a1), .val (.ref a2), .val (.int (0 : Int32))] [(.ref a1), (.ref t2)])) _
    refine st9 _ ?_
    show Steps p.tables e below (T9.setTop (mkF m 69 #[.val (.ref a1), .val (.ref a2), .val (.int (0 : Int32))] [(.int (1 : Int32)), (.ref t2)])) _
    refine XS.sipush X9.here hx rfl (hb hby d10_69) ?_
    show Steps p.tables e below (T9.setTop (mkF m 72 #[.val (.ref a1), .val (.ref a2), .val (.int (0 : Int32))] [(.int (4095 : Int32)), (.int (1 : Int32)), (.ref t2)])) _
    refine XS.iand X9.here hx rfl (hb hby d10_72) rfl ?_
    show Steps p.tables e below (T9.setTop (mkF m 73 #[.val (.ref a1), .val (.ref a2), .val (.int (0 : Int32))] [(.int (1 : Int32)), (.ref t2)])) _
    refine XS.aloadN X9.here hx rfl (hb hby d10_73) rfl rfl ?_
    show Steps p.tables e below (T9.setTop (mkF m 74 #[.val (.ref a1), .val (.ref a2), .val (.int (0 : Int32))] [(.ref a2), (.int (1 : Int32)), (.ref t2)])) _
    refine st10 _ ?_
    show Steps p.tables e below (T10.setTop (mkF m 75 #[.val (.ref a1), .val (.ref a2), .val (.int (0 : Int32))] [])) _
    refine XS.aloadN X10.here hx rfl (hb hby d10_75) rfl rfl ?_
    show Steps p.tables e below (T10.setTop (mkF m 76 #[.val (.ref a1), .val (.ref a2), .val (.int (0 : Int32))] [(.ref a1)])) _
    refine XS.dup X10.here hx rfl (hb hby d10_76) rfl rfl ?_
    show Steps p.tables e below (T10.setTop (mkF m 77 #[.val (.ref a1), .val (.ref a2), .val (.int (0 : Int32))] [(.ref a1), (.ref a1)])) _
    refine st11 _ ?_
    show Steps p.tables e below (T11.setTop (mkF m 80 #[.val (.ref a1), .val (.ref a2), .val (.int (0 : Int32))] [(.int (1 : Int32)), (.ref a1)])) _
    refine XS.iconst X11.here hx rfl (hb hby d10_80) ?_
    show Steps p.tables e below (T11.setTop (mkF m 81 #[.val (.ref a1), .val (.ref a2), .val (.int (0 : Int32))] [(.int (1 : Int32)), (.int (1 : Int32)), (.ref a1)])) _
    refine XS.iadd X11.here hx rfl (hb hby d10_81) rfl ?_
    show Steps p.tables e below (T11.setTop (mkF m 82 #[.val (.ref a1), .val (.ref a2), .val (.int (0 : Int32))] [(.int (2 : Int32)), (.ref a1)])) _
    refine st12 _ ?_
    show Steps p.tables e below (T12.setTop (mkF m 85 #[.val (.ref a1), .val (.ref a2), .val (.int (0 : Int32))] [])) _
    exact X12.returnOut hx Bd.returns (hb hby d10_85) hr
  · show Qadd1 Z a1 a2 t1 k1 t2 k2 v0 h0 n0 _ T12.heap _
    rw [e12]
    exact ⟨rfl, N12, K12, u12_6, u12_0, u12_7, u12_1, u12_2⟩
theorem pn_add2 : plainName "com/example/apportion/apportion/AppendOnlyList" = true := by first | (simp [plainName, overriddenIn]; done) | decide +kernel
theorem ef_add2 (m : MethodId) (a1 : Addr) (a2 : Addr) : entryFrame m #[(.ref a1), (.ref a2)] 3 = mkF m 0 #[.val (.ref a1), .val (.ref a2), .unset] [] := by first | (simp [entryFrame, mkF, argsToLocals, Value.category]; done) | rfl
def Qadd2 (Z : State) (a1 : Addr) (a2 : Addr) (t1 : Addr) (k1 : ClassId) (t2 : Addr) (k2 : ClassId) (v0 : Value) (v1 : Value) (h0 : Heap) (n0 : Nat) (v : Option Value) (h : Heap) (L : List Loc) : Prop := v = none ∧ Fr n0 L ∧ Keep h0 h [a1, t2] ∧ (Arv Z h t2 k2 (.object "java/lang/Object") (4096 : Int32) [v0, v1, (.ref a2)] .null) ∧ (Exa Z h a1 "com/example/apportion/apportion/AppendOnlyList") ∧ (Exa Z h t2 "[Ljava/lang/Object;") ∧ (Fld Z h a1 "com/example/apportion/apportion/AppendOnlyList" "chunks" "[[Ljava/lang/Object;" (.ref t1)) ∧ (Fld Z h a1 "com/example/apportion/apportion/AppendOnlyList" "size" "I" (.int (3 : Int32)))
set_option maxRecDepth 65536 in
set_option maxHeartbeats 40000000 in
theorem rmadd2 (l : Launch) (Z : State) (a0 : Array Value) (hw : ∀ d ∈ tables_1, d.before a0 Z = true) (ws : List Jvm.Cond) (a1 : Addr) (a2 : Addr) (t1 : Addr) (k1 : ClassId) (t2 : Addr) (k2 : ClassId) (v0 : Value) (v1 : Value) (h0 : Heap) (n0 : Nat) (Z0 : n0 ≤ h0.size) (E_a1 : Exa Z h0 a1 "com/example/apportion/apportion/AppendOnlyList") (G_a1 : n0 ≤ a1) (F_a1_chunks : Fld Z h0 a1 "com/example/apportion/apportion/AppendOnlyList" "chunks" "[[Ljava/lang/Object;" (.ref t1)) (F_a1_size : Fld Z h0 a1 "com/example/apportion/apportion/AppendOnlyList" "size" "I" (.int (2 : Int32))) (A_t1 : Arv Z h0 t1 k1 (.array (.object "java/lang/Object")) (1 : Int32) [(.ref t2)] .null) (E_t1 : Exa Z h0 t1 "[[Ljava/lang/Object;") (G_t1 : n0 ≤ t1) (OV_k1 : OvrA Z k1 (.object "java/lang/Object") "[Ljava/lang/Object;") (E_a2 : Exa Z h0 a2 "java/lang/Integer") (A_t2 : Arv Z h0 t2 k2 (.object "java/lang/Object") (4096 : Int32) [v0, v1, .null] .null) (E_t2 : Exa Z h0 t2 "[Ljava/lang/Object;") (G_t2 : n0 ≤ t2) (OV_k2 : Ovr Z k2 "java/lang/Object") :
    MetFree l (⟨"com/example/apportion/apportion/AppendOnlyList", "add", "(Ljava/lang/Object;)V"⟩ : MethodName) (head1 (Jvm.Cond.code (⟨"com/example/apportion/apportion/AppendOnlyList", "add", "(Ljava/lang/Object;)V"⟩ : MethodName) prog_1_method_2_code 3 none :: ws) ({ frames := 0, cells := 0, slots := 0, locals := 0 } : Room)) (fun a U => a = #[(.ref a1), (.ref a2)] ∧ Z.Warmed39 U.vm ∧ U.heap = h0) (fun _ _ _ _ _ => True) (fun _ U o U' => ∃ v L, o = .returned v ∧ Qadd2 Z a1 a2 t1 k1 t2 k2 v0 v1 h0 n0 v U'.heap L ∧ FrameEnd U o U' L ({ frames := 0, cells := 0, slots := 0, locals := 0 } : Room).cells ({ frames := 0, cells := 0, slots := 0, locals := 0 } : Room).slots) := by
  refine MetFree.of_bodySF (plainFor_of_name pn_add2) hisR ?_
  intro p e s m args below meth c s₁ Bd hml0 hP hK
  obtain ⟨rfl, hZ, hh⟩ := hP
  have hx := Bd.exec
  have hby := Bd.bytes
  have hml : c.maxLocals = 3 := hml0
  have hown : s.vm.findClass "com/example/apportion/apportion/AppendOnlyList" = some m.cls := findClass_of_methodNamed Bd.named
  have hnm := (name_of_methodNamed Bd.named Bd.method).1
  have X0 : Stand p l e ({ frames := 0, cells := 0, slots := 0, locals := 0 } : Room) s m #[(.ref a1), (.ref a2)] below meth c s₁ [] 0 0 := Stand.of_body Bd
  have e0 : s₁.heap = h0 := by rw [← hh, Bd.state]; rfl
  have N0 := Fr.nil n0
  have pre0 : ∀ t, Steps p.tables e below (s₁.setTop (mkF m 0 #[.val (.ref a1), .val (.ref a2), .unset] [])) t → Steps p.tables e below (s₁.setTop (entryFrame m #[(.ref a1), (.ref a2)] 3)) t := fun t k => castTop (ef_add2 m a1 a2) k
  refine own_step (Q := fun o U' => ∃ v L, o = .returned v ∧ Qadd2 Z a1 a2 t1 k1 t2 k2 v0 v1 h0 n0 v U'.heap L ∧ FrameEnd s o U' L ({ frames := 0, cells := 0, slots := 0, locals := 0 } : Room).cells ({ frames := 0, cells := 0, slots := 0, locals := 0 } : Room).slots) pre0 ?_
  have K0 : Keep h0 h0 [a1, t2] := Keep.refl h0 [a1, t2]
  obtain ⟨T1, X1, e1, st1⟩ := getF X0 hx hZ hown (host := "") (Or.inl (hw _ (List.mem_of_getElem? (i := 22) rfl))) Via.refl e0 F_a1_size (g := (mkF m 1 #[.val (.ref a1), .val (.ref a2), .unset] [(.ref a1)])) rfl rfl (hb hby d10_1)
  obtain ⟨T2, X2, e2, st2⟩ := getF X1 hx hZ hown (host := "") (Or.inl (hw _ (List.mem_of_getElem? (i := 12) rfl))) Via.refl e1 F_a1_chunks (g := (mkF m 10 #[.val (.ref a1), .val (.ref a2), .val (.int (0 : Int32))] [(.ref a1), (.int (0 : Int32))])) rfl rfl (hb hby d10_10)
  obtain ⟨cl3, Ar3, -, S3, M3, -, -⟩ := id A_t1
  have h4 : ¬ ((0 : Int32) = (1 : Int32)) := by decide
  obtain ⟨T5, X5, e5, st5⟩ := getF X2 hx hZ hown (host := "") (Or.inl (hw _ (List.mem_of_getElem? (i := 12) rfl))) Via.refl e2 F_a1_chunks (g := (mkF m 39 #[.val (.ref a1), .val (.ref a2), .val (.int (0 : Int32))] [(.ref a1)])) rfl rfl (hb hby d10_39)
  obtain ⟨cl6, Ar6, -, S6, M6, H6, -⟩ := id A_t1
  have hin6 := inb_of (j := (0 : Int32)) S6 (by decide)
  have hat6 := H6.at hin6 (v := (.ref t2)) (rfl)
  obtain ⟨T7, X7, e7, st7⟩ := getF X5 hx hZ hown (host := "") (Or.inl (hw _ (List.mem_of_getElem? (i := 12) rfl))) Via.refl e5 F_a1_chunks (g := (mkF m 60 #[.val (.ref a1), .val (.ref a2), .val (.int (0 : Int32))] [(.ref a1)])) rfl rfl (hb hby d10_60)
  obtain ⟨cl8, Ar8, -, S8, M8, H8, -⟩ := id A_t1
  have hin8 := inb_of (j := (0 : Int32)) S8 (by decide)
  have hat8 := H8.at hin8 (v := (.ref t2)) (rfl)
  obtain ⟨T9, X9, e9, st9⟩ := getF X7 hx hZ hown (host := "") (Or.inl (hw _ (List.mem_of_getElem? (i := 22) rfl))) Via.refl e7 F_a1_size (g := (mkF m 66 #[.val (.ref a1), .val (.ref a2), .val (.int (0 : Int32))] [(.ref a1), (.ref t2)])) rfl rfl (hb hby d10_66)
  obtain ⟨cl10, Ar10, q10, S10, M10, H10, G10⟩ := id A_t2
  obtain ⟨T10, h10, X10, e10, W10, st10⟩ := stR X9 hx hZ e9 Ar10 (j := (2 : Int32)) (inb_of S10 (by decide)) rfl (Sto.ofV Ar10 q10 OV_k2 (Ins.of_exa E_a2 (hw _ (List.mem_of_getElem? (i := 78) rfl)))) (g := (mkF m 74 #[.val (.ref a1), .val (.ref a2), .val (.int (0 : Int32))] [(.ref a2), (.int (2 : Int32)), (.ref t2)])) rfl rfl (hb hby d10_74)
  have u10_0 := E_a1.wr W10
  have u10_1 := F_a1_chunks.other W10 (Or.inl (ne_exa E_a1 E_t2 (by decide)))
  have u10_2 := F_a1_size.other W10 (Or.inl (ne_exa E_a1 E_t2 (by decide)))
  have u10_3 := A_t1.other W10 (ne_exa E_t1 E_t2 (by decide))
  have u10_4 := E_t1.wr W10
  have u10_5 := E_a2.wr W10
  have u10_7 := E_t2.wr W10
  have K10 := K0.wr W10 (Or.inl (List.mem_of_getElem? (i := 1) rfl))
  have Z10 : n0 ≤ h10.size := Nat.le_trans Z0 (Keep.of_wr W10).1
  have N10 := Fr.snoc X10 N0 G_t2
  have V10 : Arv Z h10 t2 k2 (.object "java/lang/Object") (4096 : Int32) [v0, v1, (.ref a2)] .null := Arv.set Ar10 q10 S10 M10 H10 G10 rfl W10 2 rfl (by show 2 < 3; decide)
  obtain ⟨T11, X11, e11, st11⟩ := getF X10 hx hZ hown (host := "") (Or.inl (hw _ (List.mem_of_getElem? (i := 22) rfl))) Via.refl e10 u10_2 (g := (mkF m 77 #[.val (.ref a1), .val (.ref a2), .val (.int (0 : Int32))] [(.ref a1), (.ref a1)])) rfl rfl (hb hby d10_77)
  obtain ⟨T12, h12, X12, e12, W12, st12⟩ := putF X11 hx hZ hown (host := "") (Or.inl (hw _ (List.mem_of_getElem? (i := 22) rfl))) Via.refl e11 u10_2 u10_0 (Or.inl (hw _ (List.mem_of_getElem? (i := 23) rfl))) (hw _ (List.mem_of_getElem? (i := 2) rfl)) (ty := .int) (by decide) rfl rfl (g := (mkF m 82 #[.val (.ref a1), .val (.ref a2), .val (.int (0 : Int32))] [(.int (3 : Int32)), (.ref a1)])) rfl rfl (hb hby d10_82)
  have u12_0 := u10_0.wr W12
  have u12_1 := u10_1.other W12 (Or.inr (slot_ne (Or.inl (hw _ (List.mem_of_getElem? (i := 13) rfl))) (Or.inl (hw _ (List.mem_of_getElem? (i := 23) rfl))) (by decide) (t := (.array (.array (.object "java/lang/Object")))) (t' := .int) (by decide) (by decide)))
  have u12_2 := u10_2.same W12
  have u12_3 := u10_3.other W12 (ne_exa u10_4 u10_0 (by decide))
  have u12_4 := u10_4.wr W12
  have u12_5 := u10_5.wr W12
  have u12_6 := V10.other W12 (ne_exa u10_7 u10_0 (by decide))
  have u12_7 := u10_7.wr W12
  have K12 := K10.wr W12 (Or.inl (List.mem_of_getElem? (i := 0) rfl))
  have Z12 : n0 ≤ h12.size := Nat.le_trans Z10 (Keep.of_wr W12).1
  have N12 := Fr.snoc X12 N10 G_a1
  obtain ⟨fs, hr, hrun, hended, hW, hsame⟩ := X12.leave (v := none) (fun _ => rfl)
  refine ⟨_, _, ?_, hrun, hended, _, _, rfl, ?_, ⟨_, rfl⟩, hW, hsame.mono (by decide) (by decide)⟩
  · show Steps p.tables e below (s₁.setTop (mkF m 0 #[.val (.ref a1), .val (.ref a2), .unset] [])) _
    refine XS.aloadN X0.here hx rfl (hb hby d10_0) rfl rfl ?_
    show Steps p.tables e below (s₁.setTop (mkF m 1 #[.val (.ref a1), .val (.ref a2), .unset] [(.ref a1)])) _
    refine st1 _ ?_
    show Steps p.tables e below (T1.setTop (mkF m 4 #[.val (.ref a1), .val (.ref a2), .unset] [(.int (2 : Int32))])) _
    refine XS.bipush X1.here hx rfl (hb hby d10_4) ?_
    show Steps p.tables e below (T1.setTop (mkF m 6 #[.val (.ref a1), .val (.ref a2), .unset] [(.int (12 : Int32)), (.int (2 : Int32))])) _
    refine XT.iushr X1.here hx rfl (hb hby d10_6) rfl ?_
    show Steps p.tables e below (T1.setTop (mkF m 7 #[.val (.ref a1), .val (.ref a2), .unset] [(.int (0 : Int32))])) _
    refine XS.istoreN X1.here hx rfl (hb hby d10_7) rfl (l' := #[.val (.ref a1), .val (.ref a2), .val (.int (0 : Int32))]) rfl ?_
    show Steps p.tables e below (T1.setTop (mkF m 8 #[.val (.ref a1), .val (.ref a2), .val (.int (0 : Int32))] [])) _
    refine XS.iloadN X1.here hx rfl (hb hby d10_8) rfl ?_
    show Steps p.tables e below (T1.setTop (mkF m 9 #[.val (.ref a1), .val (.ref a2), .val (.int (0 : Int32))] [(.int (0 : Int32))])) _
    refine XS.aloadN X1.here hx rfl (hb hby d10_9) rfl rfl ?_
    show Steps p.tables e below (T1.setTop (mkF m 10 #[.val (.ref a1), .val (.ref a2), .val (.int (0 : Int32))] [(.ref a1), (.int (0 : Int32))])) _
    refine st2 _ ?_
    show Steps p.tables e below (T2.setTop (mkF m 13 #[.val (.ref a1), .val (.ref a2), .val (.int (0 : Int32))] [(.ref t1), (.int (0 : Int32))])) _
    refine X2.arraylength hx (by rw [e2]; exact Ar3.1) (State.isArrayOf_alike hZ.alike Ar3.2.1) (g := (mkF m 13 #[.val (.ref a1), .val (.ref a2), .val (.int (0 : Int32))] [(.ref t1), (.int (0 : Int32))])) rfl rfl (hb hby d10_13) _ ?_
    rw [len_of S3 M3]
    show Steps p.tables e below (T2.setTop (mkF m 14 #[.val (.ref a1), .val (.ref a2), .val (.int (0 : Int32))] [(.int (1 : Int32)), (.int (0 : Int32))])) _
    refine XS.icmpYes X2.here hx rfl (pc0 := 14) (pc' := 38) rfl (hb hby d10_14) rfl (feq h4).2 (by decide) (by decide) ?_
    show Steps p.tables e below (T2.setTop (mkF m 38 #[.val (.ref a1), .val (.ref a2), .val (.int (0 : Int32))] [])) _
    refine XS.aloadN X2.here hx rfl (hb hby d10_38) rfl rfl ?_
    show Steps p.tables e below (T2.setTop (mkF m 39 #[.val (.ref a1), .val (.ref a2), .val (.int (0 : Int32))] [(.ref a1)])) _
    refine st5 _ ?_
    show Steps p.tables e below (T5.setTop (mkF m 42 #[.val (.ref a1), .val (.ref a2), .val (.int (0 : Int32))] [(.ref t1)])) _
    refine XS.iloadN X5.here hx rfl (hb hby d10_42) rfl ?_
    show Steps p.tables e below (T5.setTop (mkF m 43 #[.val (.ref a1), .val (.ref a2), .val (.int (0 : Int32))] [(.int (0 : Int32)), (.ref t1)])) _
    refine X5.aaload hx (j := (0 : Int32)) (v := (.ref t2)) (by rw [e5]; exact Ar6.1) (State.isArrayOf_alike hZ.alike Ar6.2.1) rfl Ar6.2.2 hin6 hat6 (g := (mkF m 43 #[.val (.ref a1), .val (.ref a2), .val (.int (0 : Int32))] [(.int (0 : Int32)), (.ref t1)])) rfl rfl (hb hby d10_43) _ ?_
    show Steps p.tables e below (T5.setTop (mkF m 44 #[.val (.ref a1), .val (.ref a2), .val (.int (0 : Int32))] [(.ref t2)])) _
    refine XT.ifnonnullYes X5.here hx rfl (pc0 := 44) (pc' := 59) rfl (hb hby d10_44) rfl (by decide) (by decide) ?_
    show Steps p.tables e below (T5.setTop (mkF m 59 #[.val (.ref a1), .val (.ref a2), .val (.int (0 : Int32))] [])) _
    refine XS.aloadN X5.here hx rfl (hb hby d10_59) rfl rfl ?_
    show Steps p.tables e below (T5.setTop (mkF m 60 #[.val (.ref a1), .val (.ref a2), .val (.int (0 : Int32))] [(.ref a1)])) _
    refine st7 _ ?_
    show Steps p.tables e below (T7.setTop (mkF m 63 #[.val (.ref a1), .val (.ref a2), .val (.int (0 : Int32))] [(.ref t1)])) _
    refine XS.iloadN X7.here hx rfl (hb hby d10_63) rfl ?_
    show Steps p.tables e below (T7.setTop (mkF m 64 #[.val (.ref a1), .val (.ref a2), .val (.int (0 : Int32))] [(.int (0 : Int32)), (.ref t1)])) _
    refine X7.aaload hx (j := (0 : Int32)) (v := (.ref t2)) (by rw [e7]; exact Ar8.1) (State.isArrayOf_alike hZ.alike Ar8.2.1) rfl Ar8.2.2 hin8 hat8 (g := (mkF m 64 #[.val (.ref a1), .val (.ref a2), .val (.int (0 : Int32))] [(.int (0 : Int32)), (.ref t1)])) rfl rfl (hb hby d10_64) _ ?_
    show Steps p.tables e below (T7.setTop (mkF m 65 #[.val (.ref a1), .val (.ref a2), .val (.int (0 : Int32))] [(.ref t2)])) _
    refine XS.aloadN X7.here hx rfl (hb hby d10_65) rfl rfl ?_
    show Steps p.tables e below (T7.setTop (mkF m 66 #[.val (.ref a1), .val (.ref a2), .val (.int (0 : Int32))] [(.ref a1), (.ref t2)])) _
    refine st9 _ ?_
    show Steps p.tables e below (T9.setTop (mkF m 69 #[.val (.ref a1), .val (.ref a2), .val (.int (0 : Int32))] [(.int (2 : Int32)), (.ref t2)])) _
    refine XS.sipush X9.here hx rfl (hb hby d10_69) ?_
    show Steps p.tables e below (T9.setTop (mkF m 72 #[.val (.ref a1), .val (.ref a2), .val (.int (0 : Int32))] [(.int (4095 : Int32)), (.int (2 : Int32)), (.ref t2)])) _
    refine XS.iand X9.here hx rfl (hb hby d10_72) rfl ?_
    show Steps p.tables e below (T9.setTop (mkF m 73 #[.val (.ref a1), .val (.ref a2), .val (.int (0 : Int32))] [(.int (2 : Int32)), (.ref t2)])) _
    refine XS.aloadN X9.here hx rfl (hb hby d10_73) rfl rfl ?_
    show Steps p.tables e below (T9.setTop (mkF m 74 #[.val (.ref a1), .val (.ref a2), .val (.int (0 : Int32))] [(.ref a2), (.int (2 : Int32)), (.ref t2)])) _
    refine st10 _ ?_
    show Steps p.tables e below (T10.setTop (mkF m 75 #[.val (.ref a1), .val (.ref a2), .val (.int (0 : Int32))] [])) _
    refine XS.aloadN X10.here hx rfl (hb hby d10_75) rfl rfl ?_
    show Steps p.tables e below (T10.setTop (mkF m 76 #[.val (.ref a1), .val (.ref a2), .val (.int (0 : Int32))] [(.ref a1)])) _
    refine XS.dup X10.here hx rfl (hb hby d10_76) rfl rfl ?_
    show Steps p.tables e below (T10.setTop (mkF m 77 #[.val (.ref a1), .val (.ref a2), .val (.int (0 : Int32))] [(.ref a1), (.ref a1)])) _
    refine st11 _ ?_
    show Steps p.tables e below (T11.setTop (mkF m 80 #[.val (.ref a1), .val (.ref a2), .val (.int (0 : Int32))] [(.int (2 : Int32)), (.ref a1)])) _
    refine XS.iconst X11.here hx rfl (hb hby d10_80) ?_
    show Steps p.tables e below (T11.setTop (mkF m 81 #[.val (.ref a1), .val (.ref a2), .val (.int (0 : Int32))] [(.int (1 : Int32)), (.int (2 : Int32)), (.ref a1)])) _
    refine XS.iadd X11.here hx rfl (hb hby d10_81) rfl ?_
    show Steps p.tables e below (T11.setTop (mkF m 82 #[.val (.ref a1), .val (.ref a2), .val (.int (0 : Int32))] [(.int (3 : Int32)), (.ref a1)])) _
    refine st12 _ ?_
    show Steps p.tables e below (T12.setTop (mkF m 85 #[.val (.ref a1), .val (.ref a2), .val (.int (0 : Int32))] [])) _
    exact X12.returnOut hx Bd.returns (hb hby d10_85) hr
  · show Qadd2 Z a1 a2 t1 k1 t2 k2 v0 v1 h0 n0 _ T12.heap _
    rw [e12]
    exact ⟨rfl, N12, K12, u12_6, u12_0, u12_7, u12_1, u12_2⟩
theorem d4_0 : decode prog_2_method_1_code 0 = .ok (.aload_n 0, 1) := by decide +kernel
theorem d4_1 : decode prog_2_method_1_code 1 = .ok (.invokespecial 1, 3) := by decide +kernel
theorem d4_4 : decode prog_2_method_1_code 4 = .ok (.aload_n 0, 1) := by decide +kernel
theorem d4_5 : decode prog_2_method_1_code 5 = .ok (.aload_n 1, 1) := by decide +kernel
theorem d4_6 : decode prog_2_method_1_code 6 = .ok (.putfield 7, 3) := by decide +kernel
theorem d4_9 : decode prog_2_method_1_code 9 = .ok (.aload_n 0, 1) := by decide +kernel
theorem d4_10 : decode prog_2_method_1_code 10 = .ok (.iload_n 2, 1) := by decide +kernel
theorem d4_11 : decode prog_2_method_1_code 11 = .ok (.putfield 13, 3) := by decide +kernel
theorem d4_14 : decode prog_2_method_1_code 14 = .ok (.return_, 1) := by decide +kernel
theorem pn_4 : plainName "com/example/apportion/apportion/AppendOnlyList$Prefix" = true := by first | (simp [plainName, overriddenIn]; done) | decide +kernel
theorem ef_4 (m : MethodId) (a1 : Addr) (a2 : Addr) (p3 : Int32) : entryFrame m #[(.ref a1), (.ref a2), (.int p3)] 3 = mkF m 0 #[.val (.ref a1), .val (.ref a2), .val (.int p3)] [] := by first | (simp [entryFrame, mkF, argsToLocals, Value.category]; done) | rfl
def Q4 (Z : State) (a1 : Addr) (a2 : Addr) (p3 : Int32) (h0 : Heap) (n0 : Nat) (v : Option Value) (h : Heap) (L : List Loc) : Prop := v = none ∧ Fr n0 L ∧ Keep h0 h [a1] ∧ (Exa Z h a1 "com/example/apportion/apportion/AppendOnlyList$Prefix") ∧ (Fld Z h a1 "com/example/apportion/apportion/AppendOnlyList$Prefix" "chunks" "[[Ljava/lang/Object;" (.ref a2)) ∧ (Fld Z h a1 "com/example/apportion/apportion/AppendOnlyList$Prefix" "size" "I" (.int p3))
set_option maxRecDepth 65536 in
set_option maxHeartbeats 40000000 in
theorem rm4 (l : Launch) (Z : State) (a0 : Array Value) (hw : ∀ d ∈ tables_1, d.before a0 Z = true) (ws : List Jvm.Cond) (a1 : Addr) (a2 : Addr) (p3 : Int32) (h0 : Heap) (n0 : Nat) (Z0 : n0 ≤ h0.size) (E_a1 : Exa Z h0 a1 "com/example/apportion/apportion/AppendOnlyList$Prefix") (G_a1 : n0 ≤ a1) (F_a1_chunks : Fld Z h0 a1 "com/example/apportion/apportion/AppendOnlyList$Prefix" "chunks" "[[Ljava/lang/Object;" .null) (F_a1_size : Fld Z h0 a1 "com/example/apportion/apportion/AppendOnlyList$Prefix" "size" "I" (.int (0 : Int32))) :
    MetFree l (⟨"com/example/apportion/apportion/AppendOnlyList$Prefix", "<init>", "([[Ljava/lang/Object;I)V"⟩ : MethodName) (head1 (Jvm.Cond.code (⟨"com/example/apportion/apportion/AppendOnlyList$Prefix", "<init>", "([[Ljava/lang/Object;I)V"⟩ : MethodName) prog_2_method_1_code 3 none :: ws) ({ frames := 1, cells := 0, slots := 0, locals := 12 } : Room)) (fun a U => a = #[(.ref a1), (.ref a2), (.int p3)] ∧ Z.Warmed39 U.vm ∧ U.heap = h0) (fun _ _ _ _ _ => True) (fun _ U o U' => ∃ v L, o = .returned v ∧ Q4 Z a1 a2 p3 h0 n0 v U'.heap L ∧ FrameEnd U o U' L ({ frames := 1, cells := 0, slots := 0, locals := 12 } : Room).cells ({ frames := 1, cells := 0, slots := 0, locals := 12 } : Room).slots) := by
  refine MetFree.of_bodySF (plainFor_of_name pn_4) hisR ?_
  intro p e s m args below meth c s₁ Bd hml0 hP hK
  obtain ⟨rfl, hZ, hh⟩ := hP
  have hx := Bd.exec
  have hby := Bd.bytes
  have hml : c.maxLocals = 3 := hml0
  have hown : s.vm.findClass "com/example/apportion/apportion/AppendOnlyList$Prefix" = some m.cls := findClass_of_methodNamed Bd.named
  have hnm := (name_of_methodNamed Bd.named Bd.method).1
  have X0 : Stand p l e ({ frames := 1, cells := 0, slots := 0, locals := 12 } : Room) s m #[(.ref a1), (.ref a2), (.int p3)] below meth c s₁ [] 0 0 := Stand.of_body Bd
  have e0 : s₁.heap = h0 := by rw [← hh, Bd.state]; rfl
  have N0 := Fr.nil n0
  have pre0 : ∀ t, Steps p.tables e below (s₁.setTop (mkF m 0 #[.val (.ref a1), .val (.ref a2), .val (.int p3)] [])) t → Steps p.tables e below (s₁.setTop (entryFrame m #[(.ref a1), (.ref a2), (.int p3)] 3)) t := fun t k => castTop (ef_4 m a1 a2 p3) k
  refine own_step (Q := fun o U' => ∃ v L, o = .returned v ∧ Q4 Z a1 a2 p3 h0 n0 v U'.heap L ∧ FrameEnd s o U' L ({ frames := 1, cells := 0, slots := 0, locals := 12 } : Room).cells ({ frames := 1, cells := 0, slots := 0, locals := 12 } : Room).slots) pre0 ?_
  have K0 : Keep h0 h0 [a1] := Keep.refl h0 [a1]
  obtain ⟨T1, X1, e1, st1⟩ := initO X0 hx hZ hown (hw _ (List.mem_of_getElem? (i := 27) rfl)) (hw _ (List.mem_of_getElem? (i := 8) rfl)) (hw _ (List.mem_of_getElem? (i := 9) rfl)) e0 (g := (mkF m 1 #[.val (.ref a1), .val (.ref a2), .val (.int p3)] [(.ref a1)])) rfl (by rw [hml]; rfl) rfl (hb hby d4_1) (by decide) (W := 0) (by show 2 * 0 + _ ≤ _; exact Nat.le_of_eq rfl) (by decide)
  obtain ⟨T2, h2, X2, e2, W2, st2⟩ := putF X1 hx hZ hown (host := "") (Or.inl (hw _ (List.mem_of_getElem? (i := 28) rfl))) Via.refl e1 F_a1_chunks E_a1 (Or.inr ⟨(hw _ (List.mem_of_getElem? (i := 29) rfl)), rfl, hnm⟩) (hw _ (List.mem_of_getElem? (i := 20) rfl)) (ty := (.array (.array (.object "java/lang/Object")))) (by decide) rfl rfl (g := (mkF m 6 #[.val (.ref a1), .val (.ref a2), .val (.int p3)] [(.ref a2), (.ref a1)])) rfl rfl (hb hby d4_6)
  have u2_0 := E_a1.wr W2
  have u2_1 := F_a1_chunks.same W2
  have u2_2 := F_a1_size.other W2 (Or.inr (slot_ne (Or.inr (hw _ (List.mem_of_getElem? (i := 31) rfl))) (Or.inr (hw _ (List.mem_of_getElem? (i := 29) rfl))) (by decide) (t := .int) (t' := (.array (.array (.object "java/lang/Object")))) (by decide) (by decide)))
  have K2 := K0.wr W2 (Or.inl (List.mem_of_getElem? (i := 0) rfl))
  have Z2 : n0 ≤ h2.size := Nat.le_trans Z0 (Keep.of_wr W2).1
  have N2 := Fr.snoc X2 N0 G_a1
  obtain ⟨T3, h3, X3, e3, W3, st3⟩ := putF X2 hx hZ hown (host := "") (Or.inl (hw _ (List.mem_of_getElem? (i := 30) rfl))) Via.refl e2 u2_2 u2_0 (Or.inr ⟨(hw _ (List.mem_of_getElem? (i := 31) rfl)), rfl, hnm⟩) (hw _ (List.mem_of_getElem? (i := 20) rfl)) (ty := .int) (by decide) rfl rfl (g := (mkF m 11 #[.val (.ref a1), .val (.ref a2), .val (.int p3)] [(.int p3), (.ref a1)])) rfl rfl (hb hby d4_11)
  have u3_0 := u2_0.wr W3
  have u3_1 := u2_1.other W3 (Or.inr (slot_ne (Or.inr (hw _ (List.mem_of_getElem? (i := 29) rfl))) (Or.inr (hw _ (List.mem_of_getElem? (i := 31) rfl))) (by decide) (t := (.array (.array (.object "java/lang/Object")))) (t' := .int) (by decide) (by decide)))
  have u3_2 := u2_2.same W3
  have K3 := K2.wr W3 (Or.inl (List.mem_of_getElem? (i := 0) rfl))
  have Z3 : n0 ≤ h3.size := Nat.le_trans Z2 (Keep.of_wr W3).1
  have N3 := Fr.snoc X3 N2 G_a1
  obtain ⟨fs, hr, hrun, hended, hW, hsame⟩ := X3.leave (v := none) (fun _ => rfl)
  refine ⟨_, _, ?_, hrun, hended, _, _, rfl, ?_, ⟨_, rfl⟩, hW, hsame.mono (by decide) (by decide)⟩
  · show Steps p.tables e below (s₁.setTop (mkF m 0 #[.val (.ref a1), .val (.ref a2), .val (.int p3)] [])) _
    refine XS.aloadN X0.here hx rfl (hb hby d4_0) rfl rfl ?_
    show Steps p.tables e below (s₁.setTop (mkF m 1 #[.val (.ref a1), .val (.ref a2), .val (.int p3)] [(.ref a1)])) _
    refine st1 _ ?_
    show Steps p.tables e below (T1.setTop (mkF m 4 #[.val (.ref a1), .val (.ref a2), .val (.int p3)] [])) _
    refine XS.aloadN X1.here hx rfl (hb hby d4_4) rfl rfl ?_
    show Steps p.tables e below (T1.setTop (mkF m 5 #[.val (.ref a1), .val (.ref a2), .val (.int p3)] [(.ref a1)])) _
    refine XS.aloadN X1.here hx rfl (hb hby d4_5) rfl rfl ?_
    show Steps p.tables e below (T1.setTop (mkF m 6 #[.val (.ref a1), .val (.ref a2), .val (.int p3)] [(.ref a2), (.ref a1)])) _
    refine st2 _ ?_
    show Steps p.tables e below (T2.setTop (mkF m 9 #[.val (.ref a1), .val (.ref a2), .val (.int p3)] [])) _
    refine XS.aloadN X2.here hx rfl (hb hby d4_9) rfl rfl ?_
    show Steps p.tables e below (T2.setTop (mkF m 10 #[.val (.ref a1), .val (.ref a2), .val (.int p3)] [(.ref a1)])) _
    refine XS.iloadN X2.here hx rfl (hb hby d4_10) rfl ?_
    show Steps p.tables e below (T2.setTop (mkF m 11 #[.val (.ref a1), .val (.ref a2), .val (.int p3)] [(.int p3), (.ref a1)])) _
    refine st3 _ ?_
    show Steps p.tables e below (T3.setTop (mkF m 14 #[.val (.ref a1), .val (.ref a2), .val (.int p3)] [])) _
    exact X3.returnOut hx Bd.returns (hb hby d4_14) hr
  · show Q4 Z a1 a2 p3 h0 n0 _ T3.heap _
    rw [e3]
    exact ⟨rfl, N3, K3, u3_0, u3_1, u3_2⟩
theorem d3_0 : decode prog_1_method_3_code 0 = .ok (.new 26, 3) := by decide +kernel
theorem d3_3 : decode prog_1_method_3_code 3 = .ok (.dup, 1) := by decide +kernel
theorem d3_4 : decode prog_1_method_3_code 4 = .ok (.aload_n 0, 1) := by decide +kernel
theorem d3_5 : decode prog_1_method_3_code 5 = .ok (.getfield 11, 3) := by decide +kernel
theorem d3_8 : decode prog_1_method_3_code 8 = .ok (.aload_n 0, 1) := by decide +kernel
theorem d3_9 : decode prog_1_method_3_code 9 = .ok (.getfield 15, 3) := by decide +kernel
theorem d3_12 : decode prog_1_method_3_code 12 = .ok (.invokespecial 28, 3) := by decide +kernel
theorem d3_15 : decode prog_1_method_3_code 15 = .ok (.areturn, 1) := by decide +kernel
theorem pn_3 : plainName "com/example/apportion/apportion/AppendOnlyList" = true := by first | (simp [plainName, overriddenIn]; done) | decide +kernel
theorem ef_3 (m : MethodId) (a1 : Addr) : entryFrame m #[(.ref a1)] 1 = mkF m 0 #[.val (.ref a1)] [] := by first | (simp [entryFrame, mkF, argsToLocals, Value.category]; done) | rfl
def Q3 (Z : State) (a1 : Addr) (t1 : Addr) (u1 : Int32) (h0 : Heap) (n0 : Nat) (v : Option Value) (h : Heap) (L : List Loc) : Prop := ∃ (r : Addr), v = some (.ref r) ∧ Fr n0 L ∧ Keep h0 h [] ∧ h0.size ≤ r ∧ (Exa Z h r "com/example/apportion/apportion/AppendOnlyList$Prefix") ∧ (Fld Z h r "com/example/apportion/apportion/AppendOnlyList$Prefix" "chunks" "[[Ljava/lang/Object;" (.ref t1)) ∧ (Fld Z h r "com/example/apportion/apportion/AppendOnlyList$Prefix" "size" "I" (.int u1))
set_option maxRecDepth 65536 in
set_option maxHeartbeats 40000000 in
theorem rm3 (l : Launch) (Z : State) (a0 : Array Value) (hw : ∀ d ∈ tables_1, d.before a0 Z = true) (ws : List Jvm.Cond) (a1 : Addr) (t1 : Addr) (u1 : Int32) (h0 : Heap) (n0 : Nat) (Z0 : n0 ≤ h0.size) (F_a1_chunks : Fld Z h0 a1 "com/example/apportion/apportion/AppendOnlyList" "chunks" "[[Ljava/lang/Object;" (.ref t1)) (F_a1_size : Fld Z h0 a1 "com/example/apportion/apportion/AppendOnlyList" "size" "I" (.int u1)) :
    MetFree l (⟨"com/example/apportion/apportion/AppendOnlyList", "prefix", "()Lcom/example/apportion/apportion/AppendOnlyList$Prefix;"⟩ : MethodName) (head1 (Jvm.Cond.code (⟨"com/example/apportion/apportion/AppendOnlyList", "prefix", "()Lcom/example/apportion/apportion/AppendOnlyList$Prefix;"⟩ : MethodName) prog_1_method_3_code 1 (some (.object "com/example/apportion/apportion/AppendOnlyList$Prefix")) :: ws) ({ frames := 2, cells := 1, slots := 2, locals := 27 } : Room)) (fun a U => a = #[(.ref a1)] ∧ Z.Warmed39 U.vm ∧ U.heap = h0) (fun _ _ _ _ _ => True) (fun _ U o U' => ∃ v L, o = .returned v ∧ Q3 Z a1 t1 u1 h0 n0 v U'.heap L ∧ FrameEnd U o U' L ({ frames := 2, cells := 1, slots := 2, locals := 27 } : Room).cells ({ frames := 2, cells := 1, slots := 2, locals := 27 } : Room).slots) := by
  refine MetFree.of_bodySF (plainFor_of_name pn_3) hisR ?_
  intro p e s m args below meth c s₁ Bd hml0 hP hK
  obtain ⟨rfl, hZ, hh⟩ := hP
  have hx := Bd.exec
  have hby := Bd.bytes
  have hml : c.maxLocals = 1 := hml0
  have hown : s.vm.findClass "com/example/apportion/apportion/AppendOnlyList" = some m.cls := findClass_of_methodNamed Bd.named
  have hnm := (name_of_methodNamed Bd.named Bd.method).1
  have X0 : Stand p l e ({ frames := 2, cells := 1, slots := 2, locals := 27 } : Room) s m #[(.ref a1)] below meth c s₁ [] 0 0 := Stand.of_body Bd
  have e0 : s₁.heap = h0 := by rw [← hh, Bd.state]; rfl
  have N0 := Fr.nil n0
  have pre0 : ∀ t, Steps p.tables e below (s₁.setTop (mkF m 0 #[.val (.ref a1)] [])) t → Steps p.tables e below (s₁.setTop (entryFrame m #[(.ref a1)] 1)) t := fun t k => castTop (ef_3 m a1) k
  refine own_step (Q := fun o U' => ∃ v L, o = .returned v ∧ Q3 Z a1 t1 u1 h0 n0 v U'.heap L ∧ FrameEnd s o U' L ({ frames := 2, cells := 1, slots := 2, locals := 27 } : Room).cells ({ frames := 2, cells := 1, slots := 2, locals := 27 } : Room).slots) pre0 ?_
  have K0 : Keep h0 h0 [] := Keep.refl h0 []
  obtain ⟨T1, h1, X1, e1, E1, A1, D1, -, st1⟩ := newO X0 hx hZ hown (hw _ (List.mem_of_getElem? (i := 19) rfl)) (hw _ (List.mem_of_getElem? (i := 20) rfl)) (hw _ (List.mem_of_getElem? (i := 21) rfl)) e0 (g := (mkF m 0 #[.val (.ref a1)] [])) rfl (hb hby d3_0) (by decide) (by decide)
  obtain ⟨o1, g1⟩ : ∃ z, z = h0.size := ⟨_, rfl⟩
  rw [← g1] at A1 D1 st1
  have ne1_1 : a1 ≠ o1 := Nat.ne_of_lt (Nat.lt_of_lt_of_le F_a1_chunks.lt (Nat.le_of_eq g1.symm))
  have u1_0 := F_a1_chunks.ext E1
  have u1_1 := F_a1_size.ext E1
  have ge1 : n0 ≤ o1 := Nat.le_trans Z0 (Nat.le_of_eq g1.symm)
  have Z1 : n0 ≤ h1.size := Nat.le_trans Z0 E1.1
  have sz1 : h0.size ≤ o1 := Nat.le_trans K0.1 (Nat.le_of_eq g1.symm)
  have K1 := K0.ext E1
  have D1_29 : Fld Z h1 o1 "com/example/apportion/apportion/AppendOnlyList$Prefix" "chunks" "[[Ljava/lang/Object;" .null := D1 (Or.inr (hw _ (List.mem_of_getElem? (i := 29) rfl))) (ty := (.array (.array (.object "java/lang/Object")))) (by decide)
  have D1_31 : Fld Z h1 o1 "com/example/apportion/apportion/AppendOnlyList$Prefix" "size" "I" (.int (0 : Int32)) := D1 (Or.inr (hw _ (List.mem_of_getElem? (i := 31) rfl))) (ty := .int) (by decide)
  obtain ⟨T2, X2, e2, st2⟩ := getF X1 hx hZ hown (host := "") (Or.inl (hw _ (List.mem_of_getElem? (i := 12) rfl))) Via.refl e1 u1_0 (g := (mkF m 5 #[.val (.ref a1)] [(.ref a1), (.ref o1), (.ref o1)])) rfl rfl (hb hby d3_5)
  obtain ⟨T3, X3, e3, st3⟩ := getF X2 hx hZ hown (host := "") (Or.inl (hw _ (List.mem_of_getElem? (i := 22) rfl))) Via.refl e2 u1_1 (g := (mkF m 9 #[.val (.ref a1)] [(.ref a1), (.ref t1), (.ref o1), (.ref o1)])) rfl rfl (hb hby d3_9)
  obtain ⟨_, ⟨T4, L4, k4, n4⟩, X4, ⟨Lc4, hQ4, l4, y4, z4⟩, st4⟩ := own_specialRef X3 hx hZ (y := (⟨"com/example/apportion/apportion/AppendOnlyList$Prefix", "<init>", "([[Ljava/lang/Object;I)V"⟩ : MethodName)) rfl hown (hw _ (List.mem_of_getElem? (i := 24) rfl)) (hw _ (List.mem_of_getElem? (i := 25) rfl)) (by decide) (backOf (W := 1) (rm4 l Z a0 hw [] o1 t1 u1 h1 n0 Z1 A1 ge1 D1_29 D1_31) hZ (hw _ (List.mem_of_getElem? (i := 26) rfl)) (hw _ (List.mem_of_getElem? (i := 21) rfl)) (by decide) (by decide)) (g := (mkF m 12 #[.val (.ref a1)] [(.int u1), (.ref t1), (.ref o1), (.ref o1)])) rfl (by rw [hml]; rfl) (a := o1) (argsL := [(.ref t1), (.int u1)]) (rest := [(.ref o1)]) (lenOf pd_2 rfl) rfl (by show 2 * 0 + _ ≤ _; exact Nat.le_of_eq rfl) (hb hby d3_12) ⟨_, _, (hw _ (List.mem_of_getElem? (i := 26) rfl))⟩ ⟨rfl, e3, (by decide : 1 + 0 ≤ _), (by decide : 2 + 0 ≤ _)⟩
  dsimp only [Pt.U, Pt.locs, Pt.cells, Pt.slots] at X4 l4 y4 z4 st4 hQ4
  subst l4 y4 z4
  obtain ⟨rfl, N4q, Kc4, c4_0, c4_1, c4_2⟩ := hQ4
  have N4 := Fr.app N0 N4q
  have u4_0 := u1_0.keep Kc4 (by simp only [List.mem_cons, List.not_mem_nil, or_false, not_or]; exact ne1_1)
  have u4_1 := u1_1.keep Kc4 (by simp only [List.mem_cons, List.not_mem_nil, or_false, not_or]; exact ne1_1)
  have u4_2 := A1.keep Kc4
  have K4 := K1.trans Kc4 (fun x hx => by cases List.mem_singleton.mp hx; exact Or.inr sz1)
  have Z4 : n0 ≤ T4.heap.size := Nat.le_trans Z1 Kc4.1
  obtain ⟨fs, hr, hrun, hended, hW, hsame⟩ := X4.leave (v := some (.ref o1)) (fun h => by rw [Bd.returns] at h; cases h)
  refine ⟨_, _, ?_, hrun, hended, _, _, rfl, ?_, ⟨_, rfl⟩, hW, hsame.mono (by decide) (by decide)⟩
  · show Steps p.tables e below (s₁.setTop (mkF m 0 #[.val (.ref a1)] [])) _
    refine st1 _ ?_
    show Steps p.tables e below (T1.setTop (mkF m 3 #[.val (.ref a1)] [(.ref o1)])) _
    refine XS.dup X1.here hx rfl (hb hby d3_3) rfl rfl ?_
    show Steps p.tables e below (T1.setTop (mkF m 4 #[.val (.ref a1)] [(.ref o1), (.ref o1)])) _
    refine XS.aloadN X1.here hx rfl (hb hby d3_4) rfl rfl ?_
    show Steps p.tables e below (T1.setTop (mkF m 5 #[.val (.ref a1)] [(.ref a1), (.ref o1), (.ref o1)])) _
    refine st2 _ ?_
    show Steps p.tables e below (T2.setTop (mkF m 8 #[.val (.ref a1)] [(.ref t1), (.ref o1), (.ref o1)])) _
    refine XS.aloadN X2.here hx rfl (hb hby d3_8) rfl rfl ?_
    show Steps p.tables e below (T2.setTop (mkF m 9 #[.val (.ref a1)] [(.ref a1), (.ref t1), (.ref o1), (.ref o1)])) _
    refine st3 _ ?_
    show Steps p.tables e below (T3.setTop (mkF m 12 #[.val (.ref a1)] [(.int u1), (.ref t1), (.ref o1), (.ref o1)])) _
    refine st4.trans ?_
    show Steps p.tables e below (T4.setTop (mkF m 15 #[.val (.ref a1)] [(.ref o1)])) _
    jvm_step X4.here [X4.here.top, hx, (hb hby d3_15), X4.method', Bd.returns, Value.isRef, FieldType.isReference]
    first | (intro acts; rw [hr _ acts rfl rfl rfl]) | rw [hr _ _ rfl rfl rfl]
    exact Steps.refl _
  · show Q3 Z a1 t1 u1 h0 n0 _ T4.heap _
    exact ⟨o1, rfl, N4, K4, sz1, c4_0, c4_1, c4_2⟩
theorem d5_0 : decode prog_2_method_2_code 0 = .ok (.aload_n 0, 1) := by decide +kernel
theorem d5_1 : decode prog_2_method_2_code 1 = .ok (.getfield 13, 3) := by decide +kernel
theorem d5_4 : decode prog_2_method_2_code 4 = .ok (.ireturn, 1) := by decide +kernel
theorem pn_5 : plainName "com/example/apportion/apportion/AppendOnlyList$Prefix" = true := by first | (simp [plainName, overriddenIn]; done) | decide +kernel
theorem ef_5 (m : MethodId) (a1 : Addr) : entryFrame m #[(.ref a1)] 1 = mkF m 0 #[.val (.ref a1)] [] := by first | (simp [entryFrame, mkF, argsToLocals, Value.category]; done) | rfl
def Q5 (Z : State) (a1 : Addr) (u1 : Int32) (h0 : Heap) (n0 : Nat) (v : Option Value) (h : Heap) (L : List Loc) : Prop := v = some (.int (f5 a1 u1)) ∧ Fr n0 L ∧ h = h0
set_option maxRecDepth 65536 in
set_option maxHeartbeats 40000000 in
theorem rm5 (l : Launch) (Z : State) (a0 : Array Value) (hw : ∀ d ∈ tables_1, d.before a0 Z = true) (ws : List Jvm.Cond) (a1 : Addr) (u1 : Int32) (h0 : Heap) (n0 : Nat) (Z0 : n0 ≤ h0.size) (F_a1_size : Fld Z h0 a1 "com/example/apportion/apportion/AppendOnlyList$Prefix" "size" "I" (.int u1)) :
    MetFree l (⟨"com/example/apportion/apportion/AppendOnlyList$Prefix", "size", "()I"⟩ : MethodName) (head1 (Jvm.Cond.code (⟨"com/example/apportion/apportion/AppendOnlyList$Prefix", "size", "()I"⟩ : MethodName) prog_2_method_2_code 1 (some .int) :: ws) ({ frames := 0, cells := 0, slots := 0, locals := 0 } : Room)) (fun a U => a = #[(.ref a1)] ∧ Z.Warmed39 U.vm ∧ U.heap = h0) (fun _ _ _ _ _ => True) (fun _ U o U' => ∃ v L, o = .returned v ∧ Q5 Z a1 u1 h0 n0 v U'.heap L ∧ FrameEnd U o U' L ({ frames := 0, cells := 0, slots := 0, locals := 0 } : Room).cells ({ frames := 0, cells := 0, slots := 0, locals := 0 } : Room).slots) := by
  refine MetFree.of_bodySF (plainFor_of_name pn_5) hisR ?_
  intro p e s m args below meth c s₁ Bd hml0 hP hK
  obtain ⟨rfl, hZ, hh⟩ := hP
  have hx := Bd.exec
  have hby := Bd.bytes
  have hml : c.maxLocals = 1 := hml0
  have hown : s.vm.findClass "com/example/apportion/apportion/AppendOnlyList$Prefix" = some m.cls := findClass_of_methodNamed Bd.named
  have hnm := (name_of_methodNamed Bd.named Bd.method).1
  have X0 : Stand p l e ({ frames := 0, cells := 0, slots := 0, locals := 0 } : Room) s m #[(.ref a1)] below meth c s₁ [] 0 0 := Stand.of_body Bd
  have e0 : s₁.heap = h0 := by rw [← hh, Bd.state]; rfl
  have N0 := Fr.nil n0
  have pre0 : ∀ t, Steps p.tables e below (s₁.setTop (mkF m 0 #[.val (.ref a1)] [])) t → Steps p.tables e below (s₁.setTop (entryFrame m #[(.ref a1)] 1)) t := fun t k => castTop (ef_5 m a1) k
  refine own_step (Q := fun o U' => ∃ v L, o = .returned v ∧ Q5 Z a1 u1 h0 n0 v U'.heap L ∧ FrameEnd s o U' L ({ frames := 0, cells := 0, slots := 0, locals := 0 } : Room).cells ({ frames := 0, cells := 0, slots := 0, locals := 0 } : Room).slots) pre0 ?_
  obtain ⟨T1, X1, e1, st1⟩ := getF X0 hx hZ hown (host := "") (Or.inl (hw _ (List.mem_of_getElem? (i := 30) rfl))) Via.refl e0 F_a1_size (g := (mkF m 1 #[.val (.ref a1)] [(.ref a1)])) rfl rfl (hb hby d5_1)
  obtain ⟨fs, hr, hrun, hended, hW, hsame⟩ := X1.leave (v := some (.int u1)) (fun h => by rw [Bd.returns] at h; cases h)
  refine ⟨_, _, ?_, hrun, hended, _, _, rfl, ?_, ⟨_, rfl⟩, hW, hsame.mono (by decide) (by decide)⟩
  · show Steps p.tables e below (s₁.setTop (mkF m 0 #[.val (.ref a1)] [])) _
    refine XS.aloadN X0.here hx rfl (hb hby d5_0) rfl rfl ?_
    show Steps p.tables e below (s₁.setTop (mkF m 1 #[.val (.ref a1)] [(.ref a1)])) _
    refine st1 _ ?_
    show Steps p.tables e below (T1.setTop (mkF m 4 #[.val (.ref a1)] [(.int u1)])) _
    exact retI X1 hx Bd.returns (hb hby d5_4) hr
  · show Q5 Z a1 u1 h0 n0 _ T1.heap _
    rw [e1]
    have hf : f5 a1 u1 = u1 := rfl
    exact ⟨by rw [hf], N0, rfl⟩
theorem d7_0 : decode prog_3_method_1_code 0 = .ok (.aload_n 0, 1) := by decide +kernel
theorem d7_1 : decode prog_3_method_1_code 1 = .ok (.aload_n 1, 1) := by decide +kernel
theorem d7_2 : decode prog_3_method_1_code 2 = .ok (.putfield 3, 3) := by decide +kernel
theorem d7_5 : decode prog_3_method_1_code 5 = .ok (.aload_n 0, 1) := by decide +kernel
theorem d7_6 : decode prog_3_method_1_code 6 = .ok (.invokespecial 9, 3) := by decide +kernel
theorem d7_9 : decode prog_3_method_1_code 9 = .ok (.return_, 1) := by decide +kernel
theorem pn_7 : plainName "com/example/apportion/apportion/AppendOnlyList$Prefix$1" = true := by first | (simp [plainName, overriddenIn]; done) | decide +kernel
theorem ef_7 (m : MethodId) (a1 : Addr) (a2 : Addr) : entryFrame m #[(.ref a1), (.ref a2)] 2 = mkF m 0 #[.val (.ref a1), .val (.ref a2)] [] := by first | (simp [entryFrame, mkF, argsToLocals, Value.category]; done) | rfl
def Q7 (Z : State) (a1 : Addr) (a2 : Addr) (h0 : Heap) (n0 : Nat) (v : Option Value) (h : Heap) (L : List Loc) : Prop := v = none ∧ Fr n0 L ∧ Keep h0 h [a1] ∧ (Exa Z h a1 "com/example/apportion/apportion/AppendOnlyList$Prefix$1") ∧ (Fld Z h a1 "com/example/apportion/apportion/AppendOnlyList$Prefix$1" "next" "I" (.int (0 : Int32))) ∧ (Fld Z h a1 "com/example/apportion/apportion/AppendOnlyList$Prefix$1" "this$0" "Lcom/example/apportion/apportion/AppendOnlyList$Prefix;" (.ref a2))
set_option maxRecDepth 65536 in
set_option maxHeartbeats 40000000 in
theorem rm7 (l : Launch) (Z : State) (a0 : Array Value) (hw : ∀ d ∈ tables_1, d.before a0 Z = true) (ws : List Jvm.Cond) (a1 : Addr) (a2 : Addr) (h0 : Heap) (n0 : Nat) (Z0 : n0 ≤ h0.size) (E_a1 : Exa Z h0 a1 "com/example/apportion/apportion/AppendOnlyList$Prefix$1") (G_a1 : n0 ≤ a1) (F_a1_this_0 : Fld Z h0 a1 "com/example/apportion/apportion/AppendOnlyList$Prefix$1" "this$0" "Lcom/example/apportion/apportion/AppendOnlyList$Prefix;" .null) (F_a1_next : Fld Z h0 a1 "com/example/apportion/apportion/AppendOnlyList$Prefix$1" "next" "I" (.int (0 : Int32))) :
    MetFree l (⟨"com/example/apportion/apportion/AppendOnlyList$Prefix$1", "<init>", "(Lcom/example/apportion/apportion/AppendOnlyList$Prefix;)V"⟩ : MethodName) (head1 (Jvm.Cond.code (⟨"com/example/apportion/apportion/AppendOnlyList$Prefix$1", "<init>", "(Lcom/example/apportion/apportion/AppendOnlyList$Prefix;)V"⟩ : MethodName) prog_3_method_1_code 2 none :: ws) ({ frames := 1, cells := 0, slots := 0, locals := 12 } : Room)) (fun a U => a = #[(.ref a1), (.ref a2)] ∧ Z.Warmed39 U.vm ∧ U.heap = h0) (fun _ _ _ _ _ => True) (fun _ U o U' => ∃ v L, o = .returned v ∧ Q7 Z a1 a2 h0 n0 v U'.heap L ∧ FrameEnd U o U' L ({ frames := 1, cells := 0, slots := 0, locals := 12 } : Room).cells ({ frames := 1, cells := 0, slots := 0, locals := 12 } : Room).slots) := by
  refine MetFree.of_bodySF (plainFor_of_name pn_7) hisR ?_
  intro p e s m args below meth c s₁ Bd hml0 hP hK
  obtain ⟨rfl, hZ, hh⟩ := hP
  have hx := Bd.exec
  have hby := Bd.bytes
  have hml : c.maxLocals = 2 := hml0
  have hown : s.vm.findClass "com/example/apportion/apportion/AppendOnlyList$Prefix$1" = some m.cls := findClass_of_methodNamed Bd.named
  have hnm := (name_of_methodNamed Bd.named Bd.method).1
  have X0 : Stand p l e ({ frames := 1, cells := 0, slots := 0, locals := 12 } : Room) s m #[(.ref a1), (.ref a2)] below meth c s₁ [] 0 0 := Stand.of_body Bd
  have e0 : s₁.heap = h0 := by rw [← hh, Bd.state]; rfl
  have N0 := Fr.nil n0
  have pre0 : ∀ t, Steps p.tables e below (s₁.setTop (mkF m 0 #[.val (.ref a1), .val (.ref a2)] [])) t → Steps p.tables e below (s₁.setTop (entryFrame m #[(.ref a1), (.ref a2)] 2)) t := fun t k => castTop (ef_7 m a1 a2) k
  refine own_step (Q := fun o U' => ∃ v L, o = .returned v ∧ Q7 Z a1 a2 h0 n0 v U'.heap L ∧ FrameEnd s o U' L ({ frames := 1, cells := 0, slots := 0, locals := 12 } : Room).cells ({ frames := 1, cells := 0, slots := 0, locals := 12 } : Room).slots) pre0 ?_
  have K0 : Keep h0 h0 [a1] := Keep.refl h0 [a1]
  obtain ⟨T1, h1, X1, e1, W1, st1⟩ := putF X0 hx hZ hown (host := "") (Or.inl (hw _ (List.mem_of_getElem? (i := 48) rfl))) Via.refl e0 F_a1_this_0 E_a1 (Or.inr ⟨(hw _ (List.mem_of_getElem? (i := 49) rfl)), rfl, hnm⟩) (hw _ (List.mem_of_getElem? (i := 43) rfl)) (ty := (.object "com/example/apportion/apportion/AppendOnlyList$Prefix")) (by decide) rfl rfl (g := (mkF m 2 #[.val (.ref a1), .val (.ref a2)] [(.ref a2), (.ref a1)])) rfl rfl (hb hby d7_2)
  have u1_0 := E_a1.wr W1
  have u1_1 := F_a1_this_0.same W1
  have u1_2 := F_a1_next.other W1 (Or.inr (slot_ne (Or.inl (hw _ (List.mem_of_getElem? (i := 61) rfl))) (Or.inr (hw _ (List.mem_of_getElem? (i := 49) rfl))) (by decide) (t := .int) (t' := (.object "com/example/apportion/apportion/AppendOnlyList$Prefix")) (by decide) (by decide)))
  have K1 := K0.wr W1 (Or.inl (List.mem_of_getElem? (i := 0) rfl))
  have Z1 : n0 ≤ h1.size := Nat.le_trans Z0 (Keep.of_wr W1).1
  have N1 := Fr.snoc X1 N0 G_a1
  obtain ⟨T2, X2, e2, st2⟩ := initO X1 hx hZ hown (hw _ (List.mem_of_getElem? (i := 50) rfl)) (hw _ (List.mem_of_getElem? (i := 8) rfl)) (hw _ (List.mem_of_getElem? (i := 9) rfl)) e1 (g := (mkF m 6 #[.val (.ref a1), .val (.ref a2)] [(.ref a1)])) rfl (by rw [hml]; rfl) rfl (hb hby d7_6) (by decide) (W := 0) (by show 2 * 0 + _ ≤ _; exact Nat.le_of_eq rfl) (by decide)
  obtain ⟨fs, hr, hrun, hended, hW, hsame⟩ := X2.leave (v := none) (fun _ => rfl)
  refine ⟨_, _, ?_, hrun, hended, _, _, rfl, ?_, ⟨_, rfl⟩, hW, hsame.mono (by decide) (by decide)⟩
  · show Steps p.tables e below (s₁.setTop (mkF m 0 #[.val (.ref a1), .val (.ref a2)] [])) _
    refine XS.aloadN X0.here hx rfl (hb hby d7_0) rfl rfl ?_
    show Steps p.tables e below (s₁.setTop (mkF m 1 #[.val (.ref a1), .val (.ref a2)] [(.ref a1)])) _
    refine XS.aloadN X0.here hx rfl (hb hby d7_1) rfl rfl ?_
    show Steps p.tables e below (s₁.setTop (mkF m 2 #[.val (.ref a1), .val (.ref a2)] [(.ref a2), (.ref a1)])) _
    refine st1 _ ?_
    show Steps p.tables e below (T1.setTop (mkF m 5 #[.val (.ref a1), .val (.ref a2)] [])) _
    refine XS.aloadN X1.here hx rfl (hb hby d7_5) rfl rfl ?_
    show Steps p.tables e below (T1.setTop (mkF m 6 #[.val (.ref a1), .val (.ref a2)] [(.ref a1)])) _
    refine st2 _ ?_
    show Steps p.tables e below (T2.setTop (mkF m 9 #[.val (.ref a1), .val (.ref a2)] [])) _
    exact X2.returnOut hx Bd.returns (hb hby d7_9) hr
  · show Q7 Z a1 a2 h0 n0 _ T2.heap _
    rw [e2]
    exact ⟨rfl, N1, K1, u1_0, u1_2, u1_1⟩
theorem d6_0 : decode prog_2_method_3_code 0 = .ok (.new 17, 3) := by decide +kernel
theorem d6_3 : decode prog_2_method_3_code 3 = .ok (.dup, 1) := by decide +kernel
theorem d6_4 : decode prog_2_method_3_code 4 = .ok (.aload_n 0, 1) := by decide +kernel
theorem d6_5 : decode prog_2_method_3_code 5 = .ok (.invokespecial 19, 3) := by decide +kernel
theorem d6_8 : decode prog_2_method_3_code 8 = .ok (.areturn, 1) := by decide +kernel
theorem pn_6 : plainName "com/example/apportion/apportion/AppendOnlyList$Prefix" = true := by first | (simp [plainName, overriddenIn]; done) | decide +kernel
theorem ef_6 (m : MethodId) (a1 : Addr) : entryFrame m #[(.ref a1)] 1 = mkF m 0 #[.val (.ref a1)] [] := by first | (simp [entryFrame, mkF, argsToLocals, Value.category]; done) | rfl
def Q6 (Z : State) (a1 : Addr) (h0 : Heap) (n0 : Nat) (v : Option Value) (h : Heap) (L : List Loc) : Prop := ∃ (r : Addr), v = some (.ref r) ∧ Fr n0 L ∧ Keep h0 h [] ∧ h0.size ≤ r ∧ (Exa Z h r "com/example/apportion/apportion/AppendOnlyList$Prefix$1") ∧ (Fld Z h r "com/example/apportion/apportion/AppendOnlyList$Prefix$1" "next" "I" (.int (0 : Int32))) ∧ (Fld Z h r "com/example/apportion/apportion/AppendOnlyList$Prefix$1" "this$0" "Lcom/example/apportion/apportion/AppendOnlyList$Prefix;" (.ref a1))
set_option maxRecDepth 65536 in
set_option maxHeartbeats 40000000 in
theorem rm6 (l : Launch) (Z : State) (a0 : Array Value) (hw : ∀ d ∈ tables_1, d.before a0 Z = true) (ws : List Jvm.Cond) (a1 : Addr) (h0 : Heap) (n0 : Nat) (Z0 : n0 ≤ h0.size) :
    MetFree l (⟨"com/example/apportion/apportion/AppendOnlyList$Prefix", "iterator", "()Ljava/util/Iterator;"⟩ : MethodName) (head1 (Jvm.Cond.code (⟨"com/example/apportion/apportion/AppendOnlyList$Prefix", "iterator", "()Ljava/util/Iterator;"⟩ : MethodName) prog_2_method_3_code 1 (some (.object "java/util/Iterator")) :: ws) ({ frames := 2, cells := 1, slots := 2, locals := 26 } : Room)) (fun a U => a = #[(.ref a1)] ∧ Z.Warmed39 U.vm ∧ U.heap = h0) (fun _ _ _ _ _ => True) (fun _ U o U' => ∃ v L, o = .returned v ∧ Q6 Z a1 h0 n0 v U'.heap L ∧ FrameEnd U o U' L ({ frames := 2, cells := 1, slots := 2, locals := 26 } : Room).cells ({ frames := 2, cells := 1, slots := 2, locals := 26 } : Room).slots) := by
  refine MetFree.of_bodySF (plainFor_of_name pn_6) hisR ?_
  intro p e s m args below meth c s₁ Bd hml0 hP hK
  obtain ⟨rfl, hZ, hh⟩ := hP
  have hx := Bd.exec
  have hby := Bd.bytes
  have hml : c.maxLocals = 1 := hml0
  have hown : s.vm.findClass "com/example/apportion/apportion/AppendOnlyList$Prefix" = some m.cls := findClass_of_methodNamed Bd.named
  have hnm := (name_of_methodNamed Bd.named Bd.method).1
  have X0 : Stand p l e ({ frames := 2, cells := 1, slots := 2, locals := 26 } : Room) s m #[(.ref a1)] below meth c s₁ [] 0 0 := Stand.of_body Bd
  have e0 : s₁.heap = h0 := by rw [← hh, Bd.state]; rfl
  have N0 := Fr.nil n0
  have pre0 : ∀ t, Steps p.tables e below (s₁.setTop (mkF m 0 #[.val (.ref a1)] [])) t → Steps p.tables e below (s₁.setTop (entryFrame m #[(.ref a1)] 1)) t := fun t k => castTop (ef_6 m a1) k
  refine own_step (Q := fun o U' => ∃ v L, o = .returned v ∧ Q6 Z a1 h0 n0 v U'.heap L ∧ FrameEnd s o U' L ({ frames := 2, cells := 1, slots := 2, locals := 26 } : Room).cells ({ frames := 2, cells := 1, slots := 2, locals := 26 } : Room).slots) pre0 ?_
  have K0 : Keep h0 h0 [] := Keep.refl h0 []
  obtain ⟨T1, h1, X1, e1, E1, A1, D1, -, st1⟩ := newO X0 hx hZ hown (hw _ (List.mem_of_getElem? (i := 42) rfl)) (hw _ (List.mem_of_getElem? (i := 43) rfl)) (hw _ (List.mem_of_getElem? (i := 44) rfl)) e0 (g := (mkF m 0 #[.val (.ref a1)] [])) rfl (hb hby d6_0) (by decide) (by decide)
  obtain ⟨o1, g1⟩ : ∃ z, z = h0.size := ⟨_, rfl⟩
  rw [← g1] at A1 D1 st1
  have ge1 : n0 ≤ o1 := Nat.le_trans Z0 (Nat.le_of_eq g1.symm)
  have Z1 : n0 ≤ h1.size := Nat.le_trans Z0 E1.1
  have sz1 : h0.size ≤ o1 := Nat.le_trans K0.1 (Nat.le_of_eq g1.symm)
  have K1 := K0.ext E1
  have D1_49 : Fld Z h1 o1 "com/example/apportion/apportion/AppendOnlyList$Prefix$1" "this$0" "Lcom/example/apportion/apportion/AppendOnlyList$Prefix;" .null := D1 (Or.inr (hw _ (List.mem_of_getElem? (i := 49) rfl))) (ty := (.object "com/example/apportion/apportion/AppendOnlyList$Prefix")) (by decide)
  have D1_61 : Fld Z h1 o1 "com/example/apportion/apportion/AppendOnlyList$Prefix$1" "next" "I" (.int (0 : Int32)) := D1 (Or.inl (hw _ (List.mem_of_getElem? (i := 61) rfl))) (ty := .int) (by decide)
  obtain ⟨_, _, ⟨T2, L2, k2, n2⟩, -, X2, ⟨Lc2, hQ2, l2, y2, z2⟩, st2⟩ := X1.specialBack hx (y := (⟨"com/example/apportion/apportion/AppendOnlyList$Prefix$1", "<init>", "(Lcom/example/apportion/apportion/AppendOnlyList$Prefix;)V"⟩ : MethodName)) rfl hown (mvT hZ (hw _ (List.mem_of_getElem? (i := 45) rfl))) (mvT hZ (hw _ (List.mem_of_getElem? (i := 46) rfl))) (mvT hZ (hw _ (List.mem_of_getElem? (i := 47) rfl))) (by decide) (backOf (W := 1) (rm7 l Z a0 hw [] o1 a1 h1 n0 Z1 A1 ge1 D1_49 D1_61) hZ (hw _ (List.mem_of_getElem? (i := 47) rfl)) (hw _ (List.mem_of_getElem? (i := 44) rfl)) (by decide) (by decide)) (g := (mkF m 5 #[.val (.ref a1)] [(.ref a1), (.ref o1), (.ref o1)])) rfl (by rw [hml]; rfl) (Steps.refl _) (a := o1) (argsL := [(.ref a1)]) (rest := [(.ref o1)]) (lenOf pd_3 rfl) rfl (by show 2 * 0 + _ ≤ _; exact Nat.le_of_eq rfl) (hb hby d6_5) (fun _ _ => ⟨rfl, e1, (by decide : 1 + 0 ≤ _), (by decide : 2 + 0 ≤ _)⟩)
  dsimp only [Pt.U, Pt.locs, Pt.cells, Pt.slots] at X2 l2 y2 z2 st2 hQ2
  subst l2 y2 z2
  obtain ⟨rfl, N2q, Kc2, c2_0, c2_1, c2_2⟩ := hQ2
  have N2 := Fr.app N0 N2q
  have u2_0 := A1.keep Kc2
  have K2 := K1.trans Kc2 (fun x hx => by cases List.mem_singleton.mp hx; exact Or.inr sz1)
  have Z2 : n0 ≤ T2.heap.size := Nat.le_trans Z1 Kc2.1
  obtain ⟨fs, hr, hrun, hended, hW, hsame⟩ := X2.leave (v := some (.ref o1)) (fun h => by rw [Bd.returns] at h; cases h)
  refine ⟨_, _, ?_, hrun, hended, _, _, rfl, ?_, ⟨_, rfl⟩, hW, hsame.mono (by decide) (by decide)⟩
  · show Steps p.tables e below (s₁.setTop (mkF m 0 #[.val (.ref a1)] [])) _
    refine st1 _ ?_
    show Steps p.tables e below (T1.setTop (mkF m 3 #[.val (.ref a1)] [(.ref o1)])) _
    refine XS.dup X1.here hx rfl (hb hby d6_3) rfl rfl ?_
    show Steps p.tables e below (T1.setTop (mkF m 4 #[.val (.ref a1)] [(.ref o1), (.ref o1)])) _
    refine XS.aloadN X1.here hx rfl (hb hby d6_4) rfl rfl ?_
    show Steps p.tables e below (T1.setTop (mkF m 5 #[.val (.ref a1)] [(.ref a1), (.ref o1), (.ref o1)])) _
    refine st2.trans ?_
    show Steps p.tables e below (T2.setTop (mkF m 8 #[.val (.ref a1)] [(.ref o1)])) _
    jvm_step X2.here [X2.here.top, hx, (hb hby d6_8), X2.method', Bd.returns, Value.isRef, FieldType.isReference]
    first | (intro acts; rw [hr _ acts rfl rfl rfl]) | rw [hr _ _ rfl rfl rfl]
    exact Steps.refl _
  · show Q6 Z a1 h0 n0 _ T2.heap _
    exact ⟨o1, rfl, N2, K2, sz1, c2_0, c2_1, c2_2⟩
theorem d8_0 : decode prog_3_method_2_code 0 = .ok (.aload_n 0, 1) := by decide +kernel
theorem d8_1 : decode prog_3_method_2_code 1 = .ok (.getfield 15, 3) := by decide +kernel
theorem d8_4 : decode prog_3_method_2_code 4 = .ok (.aload_n 0, 1) := by decide +kernel
theorem d8_5 : decode prog_3_method_2_code 5 = .ok (.getfield 3, 3) := by decide +kernel
theorem d8_8 : decode prog_3_method_2_code 8 = .ok (.getfield 19, 3) := by decide +kernel
theorem d8_11 : decode prog_3_method_2_code 11 = .ok (.if_icmp .ge 7, 3) := by decide +kernel
theorem d8_14 : decode prog_3_method_2_code 14 = .ok (.iconst 1, 1) := by decide +kernel
theorem d8_15 : decode prog_3_method_2_code 15 = .ok (.goto 4, 3) := by decide +kernel
theorem d8_18 : decode prog_3_method_2_code 18 = .ok (.iconst 0, 1) := by decide +kernel
theorem d8_19 : decode prog_3_method_2_code 19 = .ok (.ireturn, 1) := by decide +kernel
theorem pn_8 : plainName "com/example/apportion/apportion/AppendOnlyList$Prefix$1" = true := by first | (simp [plainName, overriddenIn]; done) | decide +kernel
theorem ef_8 (m : MethodId) (a1 : Addr) : entryFrame m #[(.ref a1)] 1 = mkF m 0 #[.val (.ref a1)] [] := by first | (simp [entryFrame, mkF, argsToLocals, Value.category]; done) | rfl
def Q8 (Z : State) (a1 : Addr) (u1 : Int32) (b1 : Addr) (u2 : Int32) (h0 : Heap) (n0 : Nat) (v : Option Value) (h : Heap) (L : List Loc) : Prop := v = some (.int (f8 a1 u1 b1 u2)) ∧ Fr n0 L ∧ h = h0
set_option maxRecDepth 65536 in
set_option maxHeartbeats 40000000 in
theorem rm8 (l : Launch) (Z : State) (a0 : Array Value) (hw : ∀ d ∈ tables_1, d.before a0 Z = true) (ws : List Jvm.Cond) (a1 : Addr) (u1 : Int32) (b1 : Addr) (u2 : Int32) (h0 : Heap) (n0 : Nat) (Z0 : n0 ≤ h0.size) (F_a1_next : Fld Z h0 a1 "com/example/apportion/apportion/AppendOnlyList$Prefix$1" "next" "I" (.int u1)) (F_a1_this_0 : Fld Z h0 a1 "com/example/apportion/apportion/AppendOnlyList$Prefix$1" "this$0" "Lcom/example/apportion/apportion/AppendOnlyList$Prefix;" (.ref b1)) (F_b1_size : Fld Z h0 b1 "com/example/apportion/apportion/AppendOnlyList$Prefix" "size" "I" (.int u2)) :
    MetFree l (⟨"com/example/apportion/apportion/AppendOnlyList$Prefix$1", "hasNext", "()Z"⟩ : MethodName) (head1 (Jvm.Cond.code (⟨"com/example/apportion/apportion/AppendOnlyList$Prefix$1", "hasNext", "()Z"⟩ : MethodName) prog_3_method_2_code 1 (some .boolean) :: ws) ({ frames := 0, cells := 0, slots := 0, locals := 0 } : Room)) (fun a U => a = #[(.ref a1)] ∧ Z.Warmed39 U.vm ∧ U.heap = h0) (fun _ _ _ _ _ => True) (fun _ U o U' => ∃ v L, o = .returned v ∧ Q8 Z a1 u1 b1 u2 h0 n0 v U'.heap L ∧ FrameEnd U o U' L ({ frames := 0, cells := 0, slots := 0, locals := 0 } : Room).cells ({ frames := 0, cells := 0, slots := 0, locals := 0 } : Room).slots) := by
  refine MetFree.of_bodySF (plainFor_of_name pn_8) hisR ?_
  intro p e s m args below meth c s₁ Bd hml0 hP hK
  obtain ⟨rfl, hZ, hh⟩ := hP
  have hx := Bd.exec
  have hby := Bd.bytes
  have hml : c.maxLocals = 1 := hml0
  have hown : s.vm.findClass "com/example/apportion/apportion/AppendOnlyList$Prefix$1" = some m.cls := findClass_of_methodNamed Bd.named
  have hnm := (name_of_methodNamed Bd.named Bd.method).1
  have X0 : Stand p l e ({ frames := 0, cells := 0, slots := 0, locals := 0 } : Room) s m #[(.ref a1)] below meth c s₁ [] 0 0 := Stand.of_body Bd
  have e0 : s₁.heap = h0 := by rw [← hh, Bd.state]; rfl
  have N0 := Fr.nil n0
  have pre0 : ∀ t, Steps p.tables e below (s₁.setTop (mkF m 0 #[.val (.ref a1)] [])) t → Steps p.tables e below (s₁.setTop (entryFrame m #[(.ref a1)] 1)) t := fun t k => castTop (ef_8 m a1) k
  refine own_step (Q := fun o U' => ∃ v L, o = .returned v ∧ Q8 Z a1 u1 b1 u2 h0 n0 v U'.heap L ∧ FrameEnd s o U' L ({ frames := 0, cells := 0, slots := 0, locals := 0 } : Room).cells ({ frames := 0, cells := 0, slots := 0, locals := 0 } : Room).slots) pre0 ?_
  obtain ⟨T1, X1, e1, st1⟩ := getF X0 hx hZ hown (host := "") (Or.inl (hw _ (List.mem_of_getElem? (i := 60) rfl))) Via.refl e0 F_a1_next (g := (mkF m 1 #[.val (.ref a1)] [(.ref a1)])) rfl rfl (hb hby d8_1)
  obtain ⟨T2, X2, e2, st2⟩ := getF X1 hx hZ hown (host := "") (Or.inl (hw _ (List.mem_of_getElem? (i := 48) rfl))) Via.refl e1 F_a1_this_0 (g := (mkF m 5 #[.val (.ref a1)] [(.ref a1), (.int u1)])) rfl rfl (hb hby d8_5)
  obtain ⟨T3, X3, e3, st3⟩ := getF X2 hx hZ hown (host := "com/example/apportion/apportion/AppendOnlyList") (Or.inr (hw _ (List.mem_of_getElem? (i := 62) rfl))) Via.refl e2 F_b1_size (g := (mkF m 8 #[.val (.ref a1)] [(.ref b1), (.int u1)])) rfl rfl (hb hby d8_8)
  refine own_step (B := T3.setTop (mkF m 11 #[.val (.ref a1)] [(.int u2), (.int u1)])) (fun t k => ?_) ?_
  · show Steps p.tables e below (s₁.setTop (mkF m 0 #[.val (.ref a1)] [])) _
    refine XS.aloadN X0.here hx rfl (hb hby d8_0) rfl rfl ?_
    show Steps p.tables e below (s₁.setTop (mkF m 1 #[.val (.ref a1)] [(.ref a1)])) _
    refine st1 _ ?_
    show Steps p.tables e below (T1.setTop (mkF m 4 #[.val (.ref a1)] [(.int u1)])) _
    refine XS.aloadN X1.here hx rfl (hb hby d8_4) rfl rfl ?_
    show Steps p.tables e below (T1.setTop (mkF m 5 #[.val (.ref a1)] [(.ref a1), (.int u1)])) _
    refine st2 _ ?_
    show Steps p.tables e below (T2.setTop (mkF m 8 #[.val (.ref a1)] [(.ref b1), (.int u1)])) _
    refine st3 _ ?_
    exact k
  by_cases h4 : u1 < u2
  · obtain ⟨fs, hr, hrun, hended, hW, hsame⟩ := X3.leave (v := some (.int (1 : Int32))) (fun h => by rw [Bd.returns] at h; cases h)
    refine ⟨_, _, ?_, hrun, hended, _, _, rfl, ?_, ⟨_, rfl⟩, hW, hsame.mono (by decide) (by decide)⟩
    · show Steps p.tables e below (T3.setTop (mkF m 11 #[.val (.ref a1)] [(.int u2), (.int u1)])) _
      refine XS.icmpNo X3.here hx rfl (hb hby d8_11) rfl (tlt h4).2.1 ?_
      show Steps p.tables e below (T3.setTop (mkF m 14 #[.val (.ref a1)] [])) _
      refine XS.iconst X3.here hx rfl (hb hby d8_14) ?_
      show Steps p.tables e below (T3.setTop (mkF m 15 #[.val (.ref a1)] [(.int (1 : Int32))])) _
      refine XS.goto X3.here hx rfl (pc0 := 15) (pc' := 19) rfl (hb hby d8_15) (by decide) (by decide) ?_
      show Steps p.tables e below (T3.setTop (mkF m 19 #[.val (.ref a1)] [(.int (1 : Int32))])) _
      exact retN X3 hx (t := .boolean) Bd.returns (by simp) (hb hby d8_19) hr
    · show Q8 Z a1 u1 b1 u2 h0 n0 _ T3.heap _
      rw [e3]
      have hf : f8 a1 u1 b1 u2 = (1 : Int32) := by simp only [f8, if_pos h4]
      exact ⟨by rw [hf], N0, rfl⟩
  · obtain ⟨fs, hr, hrun, hended, hW, hsame⟩ := X3.leave (v := some (.int (0 : Int32))) (fun h => by rw [Bd.returns] at h; cases h)
    refine ⟨_, _, ?_, hrun, hended, _, _, rfl, ?_, ⟨_, rfl⟩, hW, hsame.mono (by decide) (by decide)⟩
    · show Steps p.tables e below (T3.setTop (mkF m 11 #[.val (.ref a1)] [(.int u2), (.int u1)])) _
      refine XS.icmpYes X3.here hx rfl (pc0 := 11) (pc' := 18) rfl (hb hby d8_11) rfl (flt h4).2.1 (by decide) (by decide) ?_
      show Steps p.tables e below (T3.setTop (mkF m 18 #[.val (.ref a1)] [])) _
      refine XS.iconst X3.here hx rfl (hb hby d8_18) ?_
      show Steps p.tables e below (T3.setTop (mkF m 19 #[.val (.ref a1)] [(.int (0 : Int32))])) _
      exact retN X3 hx (t := .boolean) Bd.returns (by simp) (hb hby d8_19) hr
    · show Q8 Z a1 u1 b1 u2 h0 n0 _ T3.heap _
      rw [e3]
      have hf : f8 a1 u1 b1 u2 = (0 : Int32) := by simp only [f8, if_neg h4]
      exact ⟨by rw [hf], N0, rfl⟩
theorem d14_0 : decode jdk_33_method_27_code 0 = .ok (.aload_n 0, 1) := by decide +kernel
theorem d14_1 : decode jdk_33_method_27_code 1 = .ok (.getfield 205, 3) := by decide +kernel
theorem d14_4 : decode jdk_33_method_27_code 4 = .ok (.ireturn, 1) := by decide +kernel
theorem pn_14 : plainName "java/lang/Integer" = true := by first | (simp [plainName, overriddenIn]; done) | decide +kernel
theorem ef_14 (m : MethodId) (a1 : Addr) : entryFrame m #[(.ref a1)] 1 = mkF m 0 #[.val (.ref a1)] [] := by first | (simp [entryFrame, mkF, argsToLocals, Value.category]; done) | rfl
def Q14 (Z : State) (a1 : Addr) (u1 : Int32) (h0 : Heap) (n0 : Nat) (v : Option Value) (h : Heap) (L : List Loc) : Prop := v = some (.int (f14 a1 u1)) ∧ Fr n0 L ∧ h = h0
set_option maxRecDepth 65536 in
set_option maxHeartbeats 40000000 in
theorem rm14 (l : Launch) (Z : State) (a0 : Array Value) (hw : ∀ d ∈ tables_1, d.before a0 Z = true) (ws : List Jvm.Cond) (a1 : Addr) (u1 : Int32) (h0 : Heap) (n0 : Nat) (Z0 : n0 ≤ h0.size) (F_a1_value : Fld Z h0 a1 "java/lang/Integer" "value" "I" (.int u1)) :
    MetFree l (⟨"java/lang/Integer", "intValue", "()I"⟩ : MethodName) (head1 (Jvm.Cond.code (⟨"java/lang/Integer", "intValue", "()I"⟩ : MethodName) jdk_33_method_27_code 1 (some .int) :: ws) ({ frames := 0, cells := 0, slots := 0, locals := 0 } : Room)) (fun a U => a = #[(.ref a1)] ∧ Z.Warmed39 U.vm ∧ U.heap = h0) (fun _ _ _ _ _ => True) (fun _ U o U' => ∃ v L, o = .returned v ∧ Q14 Z a1 u1 h0 n0 v U'.heap L ∧ FrameEnd U o U' L ({ frames := 0, cells := 0, slots := 0, locals := 0 } : Room).cells ({ frames := 0, cells := 0, slots := 0, locals := 0 } : Room).slots) := by
  refine MetFree.of_bodySF (plainFor_of_name pn_14) hisR ?_
  intro p e s m args below meth c s₁ Bd hml0 hP hK
  obtain ⟨rfl, hZ, hh⟩ := hP
  have hx := Bd.exec
  have hby := Bd.bytes
  have hml : c.maxLocals = 1 := hml0
  have hown : s.vm.findClass "java/lang/Integer" = some m.cls := findClass_of_methodNamed Bd.named
  have hnm := (name_of_methodNamed Bd.named Bd.method).1
  have X0 : Stand p l e ({ frames := 0, cells := 0, slots := 0, locals := 0 } : Room) s m #[(.ref a1)] below meth c s₁ [] 0 0 := Stand.of_body Bd
  have e0 : s₁.heap = h0 := by rw [← hh, Bd.state]; rfl
  have N0 := Fr.nil n0
  have pre0 : ∀ t, Steps p.tables e below (s₁.setTop (mkF m 0 #[.val (.ref a1)] [])) t → Steps p.tables e below (s₁.setTop (entryFrame m #[(.ref a1)] 1)) t := fun t k => castTop (ef_14 m a1) k
  refine own_step (Q := fun o U' => ∃ v L, o = .returned v ∧ Q14 Z a1 u1 h0 n0 v U'.heap L ∧ FrameEnd s o U' L ({ frames := 0, cells := 0, slots := 0, locals := 0 } : Room).cells ({ frames := 0, cells := 0, slots := 0, locals := 0 } : Room).slots) pre0 ?_
  obtain ⟨T1, X1, e1, st1⟩ := getF X0 hx hZ hown (host := "") (Or.inl (hw _ (List.mem_of_getElem? (i := 92) rfl))) Via.refl e0 F_a1_value (g := (mkF m 1 #[.val (.ref a1)] [(.ref a1)])) rfl rfl (hb hby d14_1)
  obtain ⟨fs, hr, hrun, hended, hW, hsame⟩ := X1.leave (v := some (.int u1)) (fun h => by rw [Bd.returns] at h; cases h)
  refine ⟨_, _, ?_, hrun, hended, _, _, rfl, ?_, ⟨_, rfl⟩, hW, hsame.mono (by decide) (by decide)⟩
  · show Steps p.tables e below (s₁.setTop (mkF m 0 #[.val (.ref a1)] [])) _
    refine XS.aloadN X0.here hx rfl (hb hby d14_0) rfl rfl ?_
    show Steps p.tables e below (s₁.setTop (mkF m 1 #[.val (.ref a1)] [(.ref a1)])) _
    refine st1 _ ?_
    show Steps p.tables e below (T1.setTop (mkF m 4 #[.val (.ref a1)] [(.int u1)])) _
    exact retI X1 hx Bd.returns (hb hby d14_4) hr
  · show Q14 Z a1 u1 h0 n0 _ T1.heap _
    rw [e1]
    have hf : f14 a1 u1 = u1 := rfl
    exact ⟨by rw [hf], N0, rfl⟩
theorem d13_0 : decode prog_3_method_3_code 0 = .ok (.aload_n 0, 1) := by decide +kernel
theorem d13_1 : decode prog_3_method_3_code 1 = .ok (.getfield 15, 3) := by decide +kernel
theorem d13_4 : decode prog_3_method_3_code 4 = .ok (.aload_n 0, 1) := by decide +kernel
theorem d13_5 : decode prog_3_method_3_code 5 = .ok (.getfield 3, 3) := by decide +kernel
theorem d13_8 : decode prog_3_method_3_code 8 = .ok (.getfield 19, 3) := by decide +kernel
theorem d13_11 : decode prog_3_method_3_code 11 = .ok (.if_icmp .ne 11, 3) := by decide +kernel
theorem d13_22 : decode prog_3_method_3_code 22 = .ok (.aload_n 0, 1) := by decide +kernel
theorem d13_23 : decode prog_3_method_3_code 23 = .ok (.getfield 3, 3) := by decide +kernel
theorem d13_26 : decode prog_3_method_3_code 26 = .ok (.getfield 27, 3) := by decide +kernel
theorem d13_29 : decode prog_3_method_3_code 29 = .ok (.aload_n 0, 1) := by decide +kernel
theorem d13_30 : decode prog_3_method_3_code 30 = .ok (.getfield 15, 3) := by decide +kernel
theorem d13_33 : decode prog_3_method_3_code 33 = .ok (.bipush 12, 2) := by decide +kernel
theorem d13_35 : decode prog_3_method_3_code 35 = .ok (.iushr, 1) := by decide +kernel
theorem d13_36 : decode prog_3_method_3_code 36 = .ok (.aaload, 1) := by decide +kernel
theorem d13_37 : decode prog_3_method_3_code 37 = .ok (.aload_n 0, 1) := by decide +kernel
theorem d13_38 : decode prog_3_method_3_code 38 = .ok (.getfield 15, 3) := by decide +kernel
theorem d13_41 : decode prog_3_method_3_code 41 = .ok (.sipush 4095, 3) := by decide +kernel
theorem d13_44 : decode prog_3_method_3_code 44 = .ok (.iand, 1) := by decide +kernel
theorem d13_45 : decode prog_3_method_3_code 45 = .ok (.aaload, 1) := by decide +kernel
theorem d13_46 : decode prog_3_method_3_code 46 = .ok (.astore_n 1, 1) := by decide +kernel
theorem d13_47 : decode prog_3_method_3_code 47 = .ok (.aload_n 0, 1) := by decide +kernel
theorem d13_48 : decode prog_3_method_3_code 48 = .ok (.dup, 1) := by decide +kernel
theorem d13_49 : decode prog_3_method_3_code 49 = .ok (.getfield 15, 3) := by decide +kernel
theorem d13_52 : decode prog_3_method_3_code 52 = .ok (.iconst 1, 1) := by decide +kernel
theorem d13_53 : decode prog_3_method_3_code 53 = .ok (.iadd, 1) := by decide +kernel
theorem d13_54 : decode prog_3_method_3_code 54 = .ok (.putfield 15, 3) := by decide +kernel
theorem d13_57 : decode prog_3_method_3_code 57 = .ok (.aload_n 1, 1) := by decide +kernel
theorem d13_58 : decode prog_3_method_3_code 58 = .ok (.areturn, 1) := by decide +kernel
theorem pn_nx01 : plainName "com/example/apportion/apportion/AppendOnlyList$Prefix$1" = true := by first | (simp [plainName, overriddenIn]; done) | decide +kernel
theorem ef_nx01 (m : MethodId) (a1 : Addr) : entryFrame m #[(.ref a1)] 2 = mkF m 0 #[.val (.ref a1), .unset] [] := by first | (simp [entryFrame, mkF, argsToLocals, Value.category]; done) | rfl
def Qnx01 (Z : State) (a1 : Addr) (b1 : Addr) (t1 : Addr) (k1 : ClassId) (t2 : Addr) (k2 : ClassId) (el0 : Addr) (v1 : Value) (v2 : Value) (h0 : Heap) (n0 : Nat) (v : Option Value) (h : Heap) (L : List Loc) : Prop := v = some (.ref el0) ∧ Fr n0 L ∧ Keep h0 h [a1] ∧ (Exa Z h a1 "com/example/apportion/apportion/AppendOnlyList$Prefix$1") ∧ (Fld Z h a1 "com/example/apportion/apportion/AppendOnlyList$Prefix$1" "next" "I" (.int (1 : Int32))) ∧ (Fld Z h a1 "com/example/apportion/apportion/AppendOnlyList$Prefix$1" "this$0" "Lcom/example/apportion/apportion/AppendOnlyList$Prefix;" (.ref b1))
set_option maxRecDepth 65536 in
set_option maxHeartbeats 40000000 in
theorem rmnx01 (l : Launch) (Z : State) (a0 : Array Value) (hw : ∀ d ∈ tables_1, d.before a0 Z = true) (ws : List Jvm.Cond) (a1 : Addr) (b1 : Addr) (t1 : Addr) (k1 : ClassId) (t2 : Addr) (k2 : ClassId) (el0 : Addr) (v1 : Value) (v2 : Value) (h0 : Heap) (n0 : Nat) (Z0 : n0 ≤ h0.size) (E_a1 : Exa Z h0 a1 "com/example/apportion/apportion/AppendOnlyList$Prefix$1") (G_a1 : n0 ≤ a1) (F_a1_next : Fld Z h0 a1 "com/example/apportion/apportion/AppendOnlyList$Prefix$1" "next" "I" (.int (0 : Int32))) (F_a1_this_0 : Fld Z h0 a1 "com/example/apportion/apportion/AppendOnlyList$Prefix$1" "this$0" "Lcom/example/apportion/apportion/AppendOnlyList$Prefix;" (.ref b1)) (E_b1 : Exa Z h0 b1 "com/example/apportion/apportion/AppendOnlyList$Prefix") (F_b1_size : Fld Z h0 b1 "com/example/apportion/apportion/AppendOnlyList$Prefix" "size" "I" (.int (1 : Int32))) (F_b1_chunks : Fld Z h0 b1 "com/example/apportion/apportion/AppendOnlyList$Prefix" "chunks" "[[Ljava/lang/Object;" (.ref t1)) (A_t1 : Arv Z h0 t1 k1 (.array (.object "java/lang/Object")) (1 : Int32) [(.ref t2)] .null) (E_t1 : Exa Z h0 t1 "[[Ljava/lang/Object;") (A_t2 : Arv Z h0 t2 k2 (.object "java/lang/Object") (4096 : Int32) [(.ref el0), v1, v2] .null) (E_t2 : Exa Z h0 t2 "[Ljava/lang/Object;") :
    MetFree l (⟨"com/example/apportion/apportion/AppendOnlyList$Prefix$1", "next", "()Ljava/lang/Object;"⟩ : MethodName) (head1 (Jvm.Cond.code (⟨"com/example/apportion/apportion/AppendOnlyList$Prefix$1", "next", "()Ljava/lang/Object;"⟩ : MethodName) prog_3_method_3_code 2 (some (.object "java/lang/Object")) :: ws) ({ frames := 0, cells := 0, slots := 0, locals := 0 } : Room)) (fun a U => a = #[(.ref a1)] ∧ Z.Warmed39 U.vm ∧ U.heap = h0) (fun _ _ _ _ _ => True) (fun _ U o U' => ∃ v L, o = .returned v ∧ Qnx01 Z a1 b1 t1 k1 t2 k2 el0 v1 v2 h0 n0 v U'.heap L ∧ FrameEnd U o U' L ({ frames := 0, cells := 0, slots := 0, locals := 0 } : Room).cells ({ frames := 0, cells := 0, slots := 0, locals := 0 } : Room).slots) := by
  refine MetFree.of_bodySF (plainFor_of_name pn_nx01) hisR ?_
  intro p e s m args below meth c s₁ Bd hml0 hP hK
  obtain ⟨rfl, hZ, hh⟩ := hP
  have hx := Bd.exec
  have hby := Bd.bytes
  have hml : c.maxLocals = 2 := hml0
  have hown : s.vm.findClass "com/example/apportion/apportion/AppendOnlyList$Prefix$1" = some m.cls := findClass_of_methodNamed Bd.named
  have hnm := (name_of_methodNamed Bd.named Bd.method).1
  have X0 : Stand p l e ({ frames := 0, cells := 0, slots := 0, locals := 0 } : Room) s m #[(.ref a1)] below meth c s₁ [] 0 0 := Stand.of_body Bd
  have e0 : s₁.heap = h0 := by rw [← hh, Bd.state]; rfl
  have N0 := Fr.nil n0
  have pre0 : ∀ t, Steps p.tables e below (s₁.setTop (mkF m 0 #[.val (.ref a1), .unset] [])) t → Steps p.tables e below (s₁.setTop (entryFrame m #[(.ref a1)] 2)) t := fun t k => castTop (ef_nx01 m a1) k
  refine own_step (Q := fun o U' => ∃ v L, o = .returned v ∧ Qnx01 Z a1 b1 t1 k1 t2 k2 el0 v1 v2 h0 n0 v U'.heap L ∧ FrameEnd s o U' L ({ frames := 0, cells := 0, slots := 0, locals := 0 } : Room).cells ({ frames := 0, cells := 0, slots := 0, locals := 0 } : Room).slots) pre0 ?_
  have K0 : Keep h0 h0 [a1] := Keep.refl h0 [a1]
  obtain ⟨T1, X1, e1, st1⟩ := getF X0 hx hZ hown (host := "") (Or.inl (hw _ (List.mem_of_getElem? (i := 60) rfl))) Via.refl e0 F_a1_next (g := (mkF m 1 #[.val (.ref a1), .unset] [(.ref a1)])) rfl rfl (hb hby d13_1)
  obtain ⟨T2, X2, e2, st2⟩ := getF X1 hx hZ hown (host := "") (Or.inl (hw _ (List.mem_of_getElem? (i := 48) rfl))) Via.refl e1 F_a1_this_0 (g := (mkF m 5 #[.val (.ref a1), .unset] [(.ref a1), (.int (0 : Int32))])) rfl rfl (hb hby d13_5)
  obtain ⟨T3, X3, e3, st3⟩ := getF X2 hx hZ hown (host := "com/example/apportion/apportion/AppendOnlyList") (Or.inr (hw _ (List.mem_of_getElem? (i := 62) rfl))) Via.refl e2 F_b1_size (g := (mkF m 8 #[.val (.ref a1), .unset] [(.ref b1), (.int (0 : Int32))])) rfl rfl (hb hby d13_8)
  have h4 : ¬ ((0 : Int32) = (1 : Int32)) := by decide
  obtain ⟨T5, X5, e5, st5⟩ := getF X3 hx hZ hown (host := "") (Or.inl (hw _ (List.mem_of_getElem? (i := 48) rfl))) Via.refl e3 F_a1_this_0 (g := (mkF m 23 #[.val (.ref a1), .unset] [(.ref a1)])) rfl rfl (hb hby d13_23)
  obtain ⟨T6, X6, e6, st6⟩ := getF X5 hx hZ hown (host := "com/example/apportion/apportion/AppendOnlyList") (Or.inr (hw _ (List.mem_of_getElem? (i := 102) rfl))) Via.refl e5 F_b1_chunks (g := (mkF m 26 #[.val (.ref a1), .unset] [(.ref b1)])) rfl rfl (hb hby d13_26)
  obtain ⟨T7, X7, e7, st7⟩ := getF X6 hx hZ hown (host := "") (Or.inl (hw _ (List.mem_of_getElem? (i := 60) rfl))) Via.refl e6 F_a1_next (g := (mkF m 30 #[.val (.ref a1), .unset] [(.ref a1), (.ref t1)])) rfl rfl (hb hby d13_30)
  obtain ⟨cl8, Ar8, -, S8, M8, H8, -⟩ := id A_t1
  have hin8 := inb_of (j := (0 : Int32)) S8 (by decide)
  have hat8 := H8.at hin8 (v := (.ref t2)) (rfl)
  obtain ⟨T9, X9, e9, st9⟩ := getF X7 hx hZ hown (host := "") (Or.inl (hw _ (List.mem_of_getElem? (i := 60) rfl))) Via.refl e7 F_a1_next (g := (mkF m 38 #[.val (.ref a1), .unset] [(.ref a1), (.ref t2)])) rfl rfl (hb hby d13_38)
  obtain ⟨cl10, Ar10, -, S10, M10, H10, -⟩ := id A_t2
  have hin10 := inb_of (j := (0 : Int32)) S10 (by decide)
  have hat10 := H10.at hin10 (v := (.ref el0)) (rfl)
  obtain ⟨T11, X11, e11, st11⟩ := getF X9 hx hZ hown (host := "") (Or.inl (hw _ (List.mem_of_getElem? (i := 60) rfl))) Via.refl e9 F_a1_next (g := (mkF m 49 #[.val (.ref a1), .val (.ref el0)] [(.ref a1), (.ref a1)])) rfl rfl (hb hby d13_49)
  obtain ⟨T12, h12, X12, e12, W12, st12⟩ := putF X11 hx hZ hown (host := "") (Or.inl (hw _ (List.mem_of_getElem? (i := 60) rfl))) Via.refl e11 F_a1_next E_a1 (Or.inl (hw _ (List.mem_of_getElem? (i := 61) rfl))) (hw _ (List.mem_of_getElem? (i := 43) rfl)) (ty := .int) (by decide) rfl rfl (g := (mkF m 54 #[.val (.ref a1), .val (.ref el0)] [(.int (1 : Int32)), (.ref a1)])) rfl rfl (hb hby d13_54)
  have u12_0 := E_a1.wr W12
  have u12_1 := F_a1_next.same W12
  have u12_2 := F_a1_this_0.other W12 (Or.inr (slot_ne (Or.inr (hw _ (List.mem_of_getElem? (i := 49) rfl))) (Or.inl (hw _ (List.mem_of_getElem? (i := 61) rfl))) (by decide) (t := (.object "com/example/apportion/apportion/AppendOnlyList$Prefix")) (t' := .int) (by decide) (by decide)))
  have u12_3 := E_b1.wr W12
  have u12_4 := F_b1_size.other W12 (Or.inl (ne_exa E_b1 E_a1 (by decide)))
  have u12_5 := F_b1_chunks.other W12 (Or.inl (ne_exa E_b1 E_a1 (by decide)))
  have u12_6 := A_t1.other W12 (ne_exa E_t1 E_a1 (by decide))
  have u12_7 := E_t1.wr W12
  have u12_8 := A_t2.other W12 (ne_exa E_t2 E_a1 (by decide))
  have u12_9 := E_t2.wr W12
  have K12 := K0.wr W12 (Or.inl (List.mem_of_getElem? (i := 0) rfl))
  have Z12 : n0 ≤ h12.size := Nat.le_trans Z0 (Keep.of_wr W12).1
  have N12 := Fr.snoc X12 N0 G_a1
  obtain ⟨fs, hr, hrun, hended, hW, hsame⟩ := X12.leave (v := some (.ref el0)) (fun h => by rw [Bd.returns] at h; cases h)
  refine ⟨_, _, ?_, hrun, hended, _, _, rfl, ?_, ⟨_, rfl⟩, hW, hsame.mono (by decide) (by decide)⟩
  · show Steps p.tables e below (s₁.setTop (mkF m 0 #[.val (.ref a1), .unset] [])) _
    refine XS.aloadN X0.here hx rfl (hb hby d13_0) rfl rfl ?_
    show Steps p.tables e below (s₁.setTop (mkF m 1 #[.val (.ref a1), .unset] [(.ref a1)])) _
    refine st1 _ ?_
    show Steps p.tables e below (T1.setTop (mkF m 4 #[.val (.ref a1), .unset] [(.int (0 : Int32))])) _
    refine XS.aloadN X1.here hx rfl (hb hby d13_4) rfl rfl ?_
    show Steps p.tables e below (T1.setTop (mkF m 5 #[.val (.ref a1), .unset] [(.ref a1), (.int (0 : Int32))])) _
    refine st2 _ ?_
    show Steps p.tables e below (T2.setTop (mkF m 8 #[.val (.ref a1), .unset] [(.ref b1), (.int (0 : Int32))])) _
    refine st3 _ ?_
    show Steps p.tables e below (T3.setTop (mkF m 11 #[.val (.ref a1), .unset] [(.int (1 : Int32)), (.int (0 : Int32))])) _
    refine XS.icmpYes X3.here hx rfl (pc0 := 11) (pc' := 22) rfl (hb hby d13_11) rfl (feq h4).2 (by decide) (by decide) ?_
    show Steps p.tables e below (T3.setTop (mkF m 22 #[.val (.ref a1), .unset] [])) _
    refine XS.aloadN X3.here hx rfl (hb hby d13_22) rfl rfl ?_
    show Steps p.tables e below (T3.setTop (mkF m 23 #[.val (.ref a1), .unset] [(.ref a1)])) _
    refine st5 _ ?_
    show Steps p.tables e below (T5.setTop (mkF m 26 #[.val (.ref a1), .unset] [(.ref b1)])) _
    refine st6 _ ?_
    show Steps p.tables e below (T6.setTop (mkF m 29 #[.val (.ref a1), .unset] [(.ref t1)])) _
    refine XS.aloadN X6.here hx rfl (hb hby d13_29) rfl rfl ?_
    show Steps p.tables e below (T6.setTop (mkF m 30 #[.val (.ref a1), .unset] [(.ref a1), (.ref t1)])) _
    refine st7 _ ?_
    show Steps p.tables e below (T7.setTop (mkF m 33 #[.val (.ref a1), .unset] [(.int (0 : Int32)), (.ref t1)])) _
    refine XS.bipush X7.here hx rfl (hb hby d13_33) ?_
    show Steps p.tables e below (T7.setTop (mkF m 35 #[.val (.ref a1), .unset] [(.int (12 : Int32)), (.int (0 : Int32)), (.ref t1)])) _
    refine XT.iushr X7.here hx rfl (hb hby d13_35) rfl ?_
    show Steps p.tables e below (T7.setTop (mkF m 36 #[.val (.ref a1), .unset] [(.int (0 : Int32)), (.ref t1)])) _
    refine X7.aaload hx (j := (0 : Int32)) (v := (.ref t2)) (by rw [e7]; exact Ar8.1) (State.isArrayOf_alike hZ.alike Ar8.2.1) rfl Ar8.2.2 hin8 hat8 (g := (mkF m 36 #[.val (.ref a1), .unset] [(.int (0 : Int32)), (.ref t1)])) rfl rfl (hb hby d13_36) _ ?_
    show Steps p.tables e below (T7.setTop (mkF m 37 #[.val (.ref a1), .unset] [(.ref t2)])) _
    refine XS.aloadN X7.here hx rfl (hb hby d13_37) rfl rfl ?_
    show Steps p.tables e below (T7.setTop (mkF m 38 #[.val (.ref a1), .unset] [(.ref a1), (.ref t2)])) _
    refine st9 _ ?_
    show Steps p.tables e below (T9.setTop (mkF m 41 #[.val (.ref a1), .unset] [(.int (0 : Int32)), (.ref t2)])) _
    refine XS.sipush X9.here hx rfl (hb hby d13_41) ?_
    show Steps p.tables e below (T9.setTop (mkF m 44 #[.val (.ref a1), .unset] [(.int (4095 : Int32)), (.int (0 : Int32)), (.ref t2)])) _
    refine XS.iand X9.here hx rfl (hb hby d13_44) rfl ?_
    show Steps p.tables e below (T9.setTop (mkF m 45 #[.val (.ref a1), .unset] [(.int (0 : Int32)), (.ref t2)])) _
    refine X9.aaload hx (j := (0 : Int32)) (v := (.ref el0)) (by rw [e9]; exact Ar10.1) (State.isArrayOf_alike hZ.alike Ar10.2.1) rfl Ar10.2.2 hin10 hat10 (g := (mkF m 45 #[.val (.ref a1), .unset] [(.int (0 : Int32)), (.ref t2)])) rfl rfl (hb hby d13_45) _ ?_
    show Steps p.tables e below (T9.setTop (mkF m 46 #[.val (.ref a1), .unset] [(.ref el0)])) _
    refine XS.astoreN X9.here hx rfl (hb hby d13_46) rfl rfl (l' := #[.val (.ref a1), .val (.ref el0)]) rfl ?_
    show Steps p.tables e below (T9.setTop (mkF m 47 #[.val (.ref a1), .val (.ref el0)] [])) _
    refine XS.aloadN X9.here hx rfl (hb hby d13_47) rfl rfl ?_
    show Steps p.tables e below (T9.setTop (mkF m 48 #[.val (.ref a1), .val (.ref el0)] [(.ref a1)])) _
    refine XS.dup X9.here hx rfl (hb hby d13_48) rfl rfl ?_
    show Steps p.tables e below (T9.setTop (mkF m 49 #[.val (.ref a1), .val (.ref el0)] [(.ref a1), (.ref a1)])) _
    refine st11 _ ?_
    show Steps p.tables e below (T11.setTop (mkF m 52 #[.val (.ref a1), .val (.ref el0)] [(.int (0 : Int32)), (.ref a1)])) _
    refine XS.iconst X11.here hx rfl (hb hby d13_52) ?_
    show Steps p.tables e below (T11.setTop (mkF m 53 #[.val (.ref a1), .val (.ref el0)] [(.int (1 : Int32)), (.int (0 : Int32)), (.ref a1)])) _
    refine XS.iadd X11.here hx rfl (hb hby d13_53) rfl ?_
    show Steps p.tables e below (T11.setTop (mkF m 54 #[.val (.ref a1), .val (.ref el0)] [(.int (1 : Int32)), (.ref a1)])) _
    refine st12 _ ?_
    show Steps p.tables e below (T12.setTop (mkF m 57 #[.val (.ref a1), .val (.ref el0)] [])) _
    refine XS.aloadN X12.here hx rfl (hb hby d13_57) rfl rfl ?_
    show Steps p.tables e below (T12.setTop (mkF m 58 #[.val (.ref a1), .val (.ref el0)] [(.ref el0)])) _
    jvm_step X12.here [X12.here.top, hx, (hb hby d13_58), X12.method', Bd.returns, Value.isRef, FieldType.isReference]
    first | (intro acts; rw [hr _ acts rfl rfl rfl]) | rw [hr _ _ rfl rfl rfl]
    exact Steps.refl _
  · show Qnx01 Z a1 b1 t1 k1 t2 k2 el0 v1 v2 h0 n0 _ T12.heap _
    rw [e12]
    exact ⟨rfl, N12, K12, u12_0, u12_1, u12_2⟩
theorem pn_nx02 : plainName "com/example/apportion/apportion/AppendOnlyList$Prefix$1" = true := by first | (simp [plainName, overriddenIn]; done) | decide +kernel
theorem ef_nx02 (m : MethodId) (a1 : Addr) : entryFrame m #[(.ref a1)] 2 = mkF m 0 #[.val (.ref a1), .unset] [] := by first | (simp [entryFrame, mkF, argsToLocals, Value.category]; done) | rfl
def Qnx02 (Z : State) (a1 : Addr) (b1 : Addr) (t1 : Addr) (k1 : ClassId) (t2 : Addr) (k2 : ClassId) (el0 : Addr) (v1 : Value) (v2 : Value) (h0 : Heap) (n0 : Nat) (v : Option Value) (h : Heap) (L : List Loc) : Prop := v = some (.ref el0) ∧ Fr n0 L ∧ Keep h0 h [a1] ∧ (Exa Z h a1 "com/example/apportion/apportion/AppendOnlyList$Prefix$1") ∧ (Fld Z h a1 "com/example/apportion/apportion/AppendOnlyList$Prefix$1" "next" "I" (.int (1 : Int32))) ∧ (Fld Z h a1 "com/example/apportion/apportion/AppendOnlyList$Prefix$1" "this$0" "Lcom/example/apportion/apportion/AppendOnlyList$Prefix;" (.ref b1))
set_option maxRecDepth 65536 in
set_option maxHeartbeats 40000000 in
theorem rmnx02 (l : Launch) (Z : State) (a0 : Array Value) (hw : ∀ d ∈ tables_1, d.before a0 Z = true) (ws : List Jvm.Cond) (a1 : Addr) (b1 : Addr) (t1 : Addr) (k1 : ClassId) (t2 : Addr) (k2 : ClassId) (el0 : Addr) (v1 : Value) (v2 : Value) (h0 : Heap) (n0 : Nat) (Z0 : n0 ≤ h0.size) (E_a1 : Exa Z h0 a1 "com/example/apportion/apportion/AppendOnlyList$Prefix$1") (G_a1 : n0 ≤ a1) (F_a1_next : Fld Z h0 a1 "com/example/apportion/apportion/AppendOnlyList$Prefix$1" "next" "I" (.int (0 : Int32))) (F_a1_this_0 : Fld Z h0 a1 "com/example/apportion/apportion/AppendOnlyList$Prefix$1" "this$0" "Lcom/example/apportion/apportion/AppendOnlyList$Prefix;" (.ref b1)) (E_b1 : Exa Z h0 b1 "com/example/apportion/apportion/AppendOnlyList$Prefix") (F_b1_size : Fld Z h0 b1 "com/example/apportion/apportion/AppendOnlyList$Prefix" "size" "I" (.int (2 : Int32))) (F_b1_chunks : Fld Z h0 b1 "com/example/apportion/apportion/AppendOnlyList$Prefix" "chunks" "[[Ljava/lang/Object;" (.ref t1)) (A_t1 : Arv Z h0 t1 k1 (.array (.object "java/lang/Object")) (1 : Int32) [(.ref t2)] .null) (E_t1 : Exa Z h0 t1 "[[Ljava/lang/Object;") (A_t2 : Arv Z h0 t2 k2 (.object "java/lang/Object") (4096 : Int32) [(.ref el0), v1, v2] .null) (E_t2 : Exa Z h0 t2 "[Ljava/lang/Object;") :
    MetFree l (⟨"com/example/apportion/apportion/AppendOnlyList$Prefix$1", "next", "()Ljava/lang/Object;"⟩ : MethodName) (head1 (Jvm.Cond.code (⟨"com/example/apportion/apportion/AppendOnlyList$Prefix$1", "next", "()Ljava/lang/Object;"⟩ : MethodName) prog_3_method_3_code 2 (some (.object "java/lang/Object")) :: ws) ({ frames := 0, cells := 0, slots := 0, locals := 0 } : Room)) (fun a U => a = #[(.ref a1)] ∧ Z.Warmed39 U.vm ∧ U.heap = h0) (fun _ _ _ _ _ => True) (fun _ U o U' => ∃ v L, o = .returned v ∧ Qnx02 Z a1 b1 t1 k1 t2 k2 el0 v1 v2 h0 n0 v U'.heap L ∧ FrameEnd U o U' L ({ frames := 0, cells := 0, slots := 0, locals := 0 } : Room).cells ({ frames := 0, cells := 0, slots := 0, locals := 0 } : Room).slots) := by
  refine MetFree.of_bodySF (plainFor_of_name pn_nx02) hisR ?_
  intro p e s m args below meth c s₁ Bd hml0 hP hK
  obtain ⟨rfl, hZ, hh⟩ := hP
  have hx := Bd.exec
  have hby := Bd.bytes
  have hml : c.maxLocals = 2 := hml0
  have hown : s.vm.findClass "com/example/apportion/apportion/AppendOnlyList$Prefix$1" = some m.cls := findClass_of_methodNamed Bd.named
  have hnm := (name_of_methodNamed Bd.named Bd.method).1
  have X0 : Stand p l e ({ frames := 0, cells := 0, slots := 0, locals := 0 } : Room) s m #[(.ref a1)] below meth c s₁ [] 0 0 := Stand.of_body Bd
  have e0 : s₁.heap = h0 := by rw [← hh, Bd.state]; rfl
  have N0 := Fr.nil n0
  have pre0 : ∀ t, Steps p.tables e below (s₁.setTop (mkF m 0 #[.val (.ref a1), .unset] [])) t → Steps p.tables e below (s₁.setTop (entryFrame m #[(.ref a1)] 2)) t := fun t k => castTop (ef_nx02 m a1) k
  refine own_step (Q := fun o U' => ∃ v L, o = .returned v ∧ Qnx02 Z a1 b1 t1 k1 t2 k2 el0 v1 v2 h0 n0 v U'.heap L ∧ FrameEnd s o U' L ({ frames := 0, cells := 0, slots := 0, locals := 0 } : Room).cells ({ frames := 0, cells := 0, slots := 0, locals := 0 } : Room).slots) pre0 ?_
  have K0 : Keep h0 h0 [a1] := Keep.refl h0 [a1]
  obtain ⟨T1, X1, e1, st1⟩ := getF X0 hx hZ hown (host := "") (Or.inl (hw _ (List.mem_of_getElem? (i := 60) rfl))) Via.refl e0 F_a1_next (g := (mkF m 1 #[.val (.ref a1), .unset] [(.ref a1)])) rfl rfl (hb hby d13_1)
  obtain ⟨T2, X2, e2, st2⟩ := getF X1 hx hZ hown (host := "") (Or.inl (hw _ (List.mem_of_getElem? (i := 48) rfl))) Via.refl e1 F_a1_this_0 (g := (mkF m 5 #[.val (.ref a1), .unset] [(.ref a1), (.int (0 : Int32))])) rfl rfl (hb hby d13_5)
  obtain ⟨T3, X3, e3, st3⟩ := getF X2 hx hZ hown (host := "com/example/apportion/apportion/AppendOnlyList") (Or.inr (hw _ (List.mem_of_getElem? (i := 62) rfl))) Via.refl e2 F_b1_size (g := (mkF m 8 #[.val (.ref a1), .unset] [(.ref b1), (.int (0 : Int32))])) rfl rfl (hb hby d13_8)
  have h4 : ¬ ((0 : Int32) = (2 : Int32)) := by decide
  obtain ⟨T5, X5, e5, st5⟩ := getF X3 hx hZ hown (host := "") (Or.inl (hw _ (List.mem_of_getElem? (i := 48) rfl))) Via.refl e3 F_a1_this_0 (g := (mkF m 23 #[.val (.ref a1), .unset] [(.ref a1)])) rfl rfl (hb hby d13_23)
  obtain ⟨T6, X6, e6, st6⟩ := getF X5 hx hZ hown (host := "com/example/apportion/apportion/AppendOnlyList") (Or.inr (hw _ (List.mem_of_getElem? (i := 102) rfl))) Via.refl e5 F_b1_chunks (g := (mkF m 26 #[.val (.ref a1), .unset] [(.ref b1)])) rfl rfl (hb hby d13_26)
  obtain ⟨T7, X7, e7, st7⟩ := getF X6 hx hZ hown (host := "") (Or.inl (hw _ (List.mem_of_getElem? (i := 60) rfl))) Via.refl e6 F_a1_next (g := (mkF m 30 #[.val (.ref a1), .unset] [(.ref a1), (.ref t1)])) rfl rfl (hb hby d13_30)
  obtain ⟨cl8, Ar8, -, S8, M8, H8, -⟩ := id A_t1
  have hin8 := inb_of (j := (0 : Int32)) S8 (by decide)
  have hat8 := H8.at hin8 (v := (.ref t2)) (rfl)
  obtain ⟨T9, X9, e9, st9⟩ := getF X7 hx hZ hown (host := "") (Or.inl (hw _ (List.mem_of_getElem? (i := 60) rfl))) Via.refl e7 F_a1_next (g := (mkF m 38 #[.val (.ref a1), .unset] [(.ref a1), (.ref t2)])) rfl rfl (hb hby d13_38)
  obtain ⟨cl10, Ar10, -, S10, M10, H10, -⟩ := id A_t2
  have hin10 := inb_of (j := (0 : Int32)) S10 (by decide)
  have hat10 := H10.at hin10 (v := (.ref el0)) (rfl)
  obtain ⟨T11, X11, e11, st11⟩ := getF X9 hx hZ hown (host := "") (Or.inl (hw _ (List.mem_of_getElem? (i := 60) rfl))) Via.refl e9 F_a1_next (g := (mkF m 49 #[.val (.ref a1), .val (.ref el0)] [(.ref a1), (.ref a1)])) rfl rfl (hb hby d13_49)
  obtain ⟨T12, h12, X12, e12, W12, st12⟩ := putF X11 hx hZ hown (host := "") (Or.inl (hw _ (List.mem_of_getElem? (i := 60) rfl))) Via.refl e11 F_a1_next E_a1 (Or.inl (hw _ (List.mem_of_getElem? (i := 61) rfl))) (hw _ (List.mem_of_getElem? (i := 43) rfl)) (ty := .int) (by decide) rfl rfl (g := (mkF m 54 #[.val (.ref a1), .val (.ref el0)] [(.int (1 : Int32)), (.ref a1)])) rfl rfl (hb hby d13_54)
  have u12_0 := E_a1.wr W12
  have u12_1 := F_a1_next.same W12
  have u12_2 := F_a1_this_0.other W12 (Or.inr (slot_ne (Or.inr (hw _ (List.mem_of_getElem? (i := 49) rfl))) (Or.inl (hw _ (List.mem_of_getElem? (i := 61) rfl))) (by decide) (t := (.object "com/example/apportion/apportion/AppendOnlyList$Prefix")) (t' := .int) (by decide) (by decide)))
  have u12_3 := E_b1.wr W12
  have u12_4 := F_b1_size.other W12 (Or.inl (ne_exa E_b1 E_a1 (by decide)))
  have u12_5 := F_b1_chunks.other W12 (Or.inl (ne_exa E_b1 E_a1 (by decide)))
  have u12_6 := A_t1.other W12 (ne_exa E_t1 E_a1 (by decide))
  have u12_7 := E_t1.wr W12
  have u12_8 := A_t2.other W12 (ne_exa E_t2 E_a1 (by decide))
  have u12_9 := E_t2.wr W12
  have K12 := K0.wr W12 (Or.inl (List.mem_of_getElem? (i := 0) rfl))
  have Z12 : n0 ≤ h12.size := Nat.le_trans Z0 (Keep.of_wr W12).1
  have N12 := Fr.snoc X12 N0 G_a1
  obtain ⟨fs, hr, hrun, hended, hW, hsame⟩ := X12.leave (v := some (.ref el0)) (fun h => by rw [Bd.returns] at h; cases h)
  refine ⟨_, _, ?_, hrun, hended, _, _, rfl, ?_, ⟨_, rfl⟩, hW, hsame.mono (by decide) (by decide)⟩
  · show Steps p.tables e below (s₁.setTop (mkF m 0 #[.val (.ref a1), .unset] [])) _
    refine XS.aloadN X0.here hx rfl (hb hby d13_0) rfl rfl ?_
    show Steps p.tables e below (s₁.setTop (mkF m 1 #[.val (.ref a1), .unset] [(.ref a1)])) _
    refine st1 _ ?_
    show Steps p.tables e below (T1.setTop (mkF m 4 #[.val (.ref a1), .unset] [(.int (0 : Int32))])) _
    refine XS.aloadN X1.here hx rfl (hb hby d13_4) rfl rfl ?_
    show Steps p.tables e below (T1.setTop (mkF m 5 #[.val (.ref a1), .unset] [(.ref a1), (.int (0 : Int32))])) _
    refine st2 _ ?_
    show Steps p.tables e below (T2.setTop (mkF m 8 #[.val (.ref a1), .unset] [(.ref b1), (.int (0 : Int32))])) _
    refine st3 _ ?_
    show Steps p.tables e below (T3.setTop (mkF m 11 #[.val (.ref a1), .unset] [(.int (2 : Int32)), (.int (0 : Int32))])) _
    refine XS.icmpYes X3.here hx rfl (pc0 := 11) (pc' := 22) rfl (hb hby d13_11) rfl (feq h4).2 (by decide) (by decide) ?_
    show Steps p.tables e below (T3.setTop (mkF m 22 #[.val (.ref a1), .unset] [])) _
    refine XS.aloadN X3.here hx rfl (hb hby d13_22) rfl rfl ?_
    show Steps p.tables e below (T3.setTop (mkF m 23 #[.val (.ref a1), .unset] [(.ref a1)])) _
    refine st5 _ ?_
    show Steps p.tables e below (T5.setTop (mkF m 26 #[.val (.ref a1), .unset] [(.ref b1)])) _
    refine st6 _ ?_
    show Steps p.tables e below (T6.setTop (mkF m 29 #[.val (.ref a1), .unset] [(.ref t1)])) _
    refine XS.aloadN X6.here hx rfl (hb hby d13_29) rfl rfl ?_
    show Steps p.tables e below (T6.setTop (mkF m 30 #[.val (.ref a1), .unset] [(.ref a1), (.ref t1)])) _
    refine st7 _ ?_
    show Steps p.tables e below (T7.setTop (mkF m 33 #[.val (.ref a1), .unset] [(.int (0 : Int32)), (.ref t1)])) _
    refine XS.bipush X7.here hx rfl (hb hby d13_33) ?_
    show Steps p.tables e below (T7.setTop (mkF m 35 #[.val (.ref a1), .unset] [(.int (12 : Int32)), (.int (0 : Int32)), (.ref t1)])) _
    refine XT.iushr X7.here hx rfl (hb hby d13_35) rfl ?_
    show Steps p.tables e below (T7.setTop (mkF m 36 #[.val (.ref a1), .unset] [(.int (0 : Int32)), (.ref t1)])) _
    refine X7.aaload hx (j := (0 : Int32)) (v := (.ref t2)) (by rw [e7]; exact Ar8.1) (State.isArrayOf_alike hZ.alike Ar8.2.1) rfl Ar8.2.2 hin8 hat8 (g := (mkF m 36 #[.val (.ref a1), .unset] [(.int (0 : Int32)), (.ref t1)])) rfl rfl (hb hby d13_36) _ ?_
    show Steps p.tables e below (T7.setTop (mkF m 37 #[.val (.ref a1), .unset] [(.ref t2)])) _
    refine XS.aloadN X7.here hx rfl (hb hby d13_37) rfl rfl ?_
    show Steps p.tables e below (T7.setTop (mkF m 38 #[.val (.ref a1), .unset] [(.ref a1), (.ref t2)])) _
    refine st9 _ ?_
    show Steps p.tables e below (T9.setTop (mkF m 41 #[.val (.ref a1), .unset] [(.int (0 : Int32)), (.ref t2)])) _
    refine XS.sipush X9.here hx rfl (hb hby d13_41) ?_
    show Steps p.tables e below (T9.setTop (mkF m 44 #[.val (.ref a1), .unset] [(.int (4095 : Int32)), (.int (0 : Int32)), (.ref t2)])) _
    refine XS.iand X9.here hx rfl (hb hby d13_44) rfl ?_
    show Steps p.tables e below (T9.setTop (mkF m 45 #[.val (.ref a1), .unset] [(.int (0 : Int32)), (.ref t2)])) _
    refine X9.aaload hx (j := (0 : Int32)) (v := (.ref el0)) (by rw [e9]; exact Ar10.1) (State.isArrayOf_alike hZ.alike Ar10.2.1) rfl Ar10.2.2 hin10 hat10 (g := (mkF m 45 #[.val (.ref a1), .unset] [(.int (0 : Int32)), (.ref t2)])) rfl rfl (hb hby d13_45) _ ?_
    show Steps p.tables e below (T9.setTop (mkF m 46 #[.val (.ref a1), .unset] [(.ref el0)])) _
    refine XS.astoreN X9.here hx rfl (hb hby d13_46) rfl rfl (l' := #[.val (.ref a1), .val (.ref el0)]) rfl ?_
    show Steps p.tables e below (T9.setTop (mkF m 47 #[.val (.ref a1), .val (.ref el0)] [])) _
    refine XS.aloadN X9.here hx rfl (hb hby d13_47) rfl rfl ?_
    show Steps p.tables e below (T9.setTop (mkF m 48 #[.val (.ref a1), .val (.ref el0)] [(.ref a1)])) _
    refine XS.dup X9.here hx rfl (hb hby d13_48) rfl rfl ?_
    show Steps p.tables e below (T9.setTop (mkF m 49 #[.val (.ref a1), .val (.ref el0)] [(.ref a1), (.ref a1)])) _
    refine st11 _ ?_
    show Steps p.tables e below (T11.setTop (mkF m 52 #[.val (.ref a1), .val (.ref el0)] [(.int (0 : Int32)), (.ref a1)])) _
    refine XS.iconst X11.here hx rfl (hb hby d13_52) ?_
    show Steps p.tables e below (T11.setTop (mkF m 53 #[.val (.ref a1), .val (.ref el0)] [(.int (1 : Int32)), (.int (0 : Int32)), (.ref a1)])) _
    refine XS.iadd X11.here hx rfl (hb hby d13_53) rfl ?_
    show Steps p.tables e below (T11.setTop (mkF m 54 #[.val (.ref a1), .val (.ref el0)] [(.int (1 : Int32)), (.ref a1)])) _
    refine st12 _ ?_
    show Steps p.tables e below (T12.setTop (mkF m 57 #[.val (.ref a1), .val (.ref el0)] [])) _
    refine XS.aloadN X12.here hx rfl (hb hby d13_57) rfl rfl ?_
    show Steps p.tables e below (T12.setTop (mkF m 58 #[.val (.ref a1), .val (.ref el0)] [(.ref el0)])) _
    jvm_step X12.here [X12.here.top, hx, (hb hby d13_58), X12.method', Bd.returns, Value.isRef, FieldType.isReference]
    first | (intro acts; rw [hr _ acts rfl rfl rfl]) | rw [hr _ _ rfl rfl rfl]
    exact Steps.refl _
  · show Qnx02 Z a1 b1 t1 k1 t2 k2 el0 v1 v2 h0 n0 _ T12.heap _
    rw [e12]
    exact ⟨rfl, N12, K12, u12_0, u12_1, u12_2⟩
theorem pn_nx12 : plainName "com/example/apportion/apportion/AppendOnlyList$Prefix$1" = true := by first | (simp [plainName, overriddenIn]; done) | decide +kernel
theorem ef_nx12 (m : MethodId) (a1 : Addr) : entryFrame m #[(.ref a1)] 2 = mkF m 0 #[.val (.ref a1), .unset] [] := by first | (simp [entryFrame, mkF, argsToLocals, Value.category]; done) | rfl
def Qnx12 (Z : State) (a1 : Addr) (b1 : Addr) (t1 : Addr) (k1 : ClassId) (t2 : Addr) (k2 : ClassId) (el0 : Addr) (v0 : Value) (v2 : Value) (h0 : Heap) (n0 : Nat) (v : Option Value) (h : Heap) (L : List Loc) : Prop := v = some (.ref el0) ∧ Fr n0 L ∧ Keep h0 h [a1] ∧ (Exa Z h a1 "com/example/apportion/apportion/AppendOnlyList$Prefix$1") ∧ (Fld Z h a1 "com/example/apportion/apportion/AppendOnlyList$Prefix$1" "next" "I" (.int (2 : Int32))) ∧ (Fld Z h a1 "com/example/apportion/apportion/AppendOnlyList$Prefix$1" "this$0" "Lcom/example/apportion/apportion/AppendOnlyList$Prefix;" (.ref b1))
set_option maxRecDepth 65536 in
set_option maxHeartbeats 40000000 in
theorem rmnx12 (l : Launch) (Z : State) (a0 : Array Value) (hw : ∀ d ∈ tables_1, d.before a0 Z = true) (ws : List Jvm.Cond) (a1 : Addr) (b1 : Addr) (t1 : Addr) (k1 : ClassId) (t2 : Addr) (k2 : ClassId) (el0 : Addr) (v0 : Value) (v2 : Value) (h0 : Heap) (n0 : Nat) (Z0 : n0 ≤ h0.size) (E_a1 : Exa Z h0 a1 "com/example/apportion/apportion/AppendOnlyList$Prefix$1") (G_a1 : n0 ≤ a1) (F_a1_next : Fld Z h0 a1 "com/example/apportion/apportion/AppendOnlyList$Prefix$1" "next" "I" (.int (1 : Int32))) (F_a1_this_0 : Fld Z h0 a1 "com/example/apportion/apportion/AppendOnlyList$Prefix$1" "this$0" "Lcom/example/apportion/apportion/AppendOnlyList$Prefix;" (.ref b1)) (E_b1 : Exa Z h0 b1 "com/example/apportion/apportion/AppendOnlyList$Prefix") (F_b1_size : Fld Z h0 b1 "com/example/apportion/apportion/AppendOnlyList$Prefix" "size" "I" (.int (2 : Int32))) (F_b1_chunks : Fld Z h0 b1 "com/example/apportion/apportion/AppendOnlyList$Prefix" "chunks" "[[Ljava/lang/Object;" (.ref t1)) (A_t1 : Arv Z h0 t1 k1 (.array (.object "java/lang/Object")) (1 : Int32) [(.ref t2)] .null) (E_t1 : Exa Z h0 t1 "[[Ljava/lang/Object;") (A_t2 : Arv Z h0 t2 k2 (.object "java/lang/Object") (4096 : Int32) [v0, (.ref el0), v2] .null) (E_t2 : Exa Z h0 t2 "[Ljava/lang/Object;") :
    MetFree l (⟨"com/example/apportion/apportion/AppendOnlyList$Prefix$1", "next", "()Ljava/lang/Object;"⟩ : MethodName) (head1 (Jvm.Cond.code (⟨"com/example/apportion/apportion/AppendOnlyList$Prefix$1", "next", "()Ljava/lang/Object;"⟩ : MethodName) prog_3_method_3_code 2 (some (.object "java/lang/Object")) :: ws) ({ frames := 0, cells := 0, slots := 0, locals := 0 } : Room)) (fun a U => a = #[(.ref a1)] ∧ Z.Warmed39 U.vm ∧ U.heap = h0) (fun _ _ _ _ _ => True) (fun _ U o U' => ∃ v L, o = .returned v ∧ Qnx12 Z a1 b1 t1 k1 t2 k2 el0 v0 v2 h0 n0 v U'.heap L ∧ FrameEnd U o U' L ({ frames := 0, cells := 0, slots := 0, locals := 0 } : Room).cells ({ frames := 0, cells := 0, slots := 0, locals := 0 } : Room).slots) := by
  refine MetFree.of_bodySF (plainFor_of_name pn_nx12) hisR ?_
  intro p e s m args below meth c s₁ Bd hml0 hP hK
  obtain ⟨rfl, hZ, hh⟩ := hP
  have hx := Bd.exec
  have hby := Bd.bytes
  have hml : c.maxLocals = 2 := hml0
  have hown : s.vm.findClass "com/example/apportion/apportion/AppendOnlyList$Prefix$1" = some m.cls := findClass_of_methodNamed Bd.named
  have hnm := (name_of_methodNamed Bd.named Bd.method).1
  have X0 : Stand p l e ({ frames := 0, cells := 0, slots := 0, locals := 0 } : Room) s m #[(.ref a1)] below meth c s₁ [] 0 0 := Stand.of_body Bd
  have e0 : s₁.heap = h0 := by rw [← hh, Bd.state]; rfl
  have N0 := Fr.nil n0
  have pre0 : ∀ t, Steps p.tables e below (s₁.setTop (mkF m 0 #[.val (.ref a1), .unset] [])) t → Steps p.tables e below (s₁.setTop (entryFrame m #[(.ref a1)] 2)) t := fun t k => castTop (ef_nx12 m a1) k
  refine own_step (Q := fun o U' => ∃ v L, o = .returned v ∧ Qnx12 Z a1 b1 t1 k1 t2 k2 el0 v0 v2 h0 n0 v U'.heap L ∧ FrameEnd s o U' L ({ frames := 0, cells := 0, slots := 0, locals := 0 } : Room).cells ({ frames := 0, cells := 0, slots := 0, locals := 0 } : Room).slots) pre0 ?_
  have K0 : Keep h0 h0 [a1] := Keep.refl h0 [a1]
  obtain ⟨T1, X1, e1, st1⟩ := getF X0 hx hZ hown (host := "") (Or.inl (hw _ (List.mem_of_getElem? (i := 60) rfl))) Via.refl e0 F_a1_next (g := (mkF m 1 #[.val (.ref a1), .unset] [(.ref a1)])) rfl rfl (hb hby d13_1)
  obtain ⟨T2, X2, e2, st2⟩ := getF X1 hx hZ hown (host := "") (Or.inl (hw _ (List.mem_of_getElem? (i := 48) rfl))) Via.refl e1 F_a1_this_0 (g := (mkF m 5 #[.val (.ref a1), .unset] [(.ref a1), (.int (1 : Int32))])) rfl rfl (hb hby d13_5)
  obtain ⟨T3, X3, e3, st3⟩ := getF X2 hx hZ hown (host := "com/example/apportion/apportion/AppendOnlyList") (Or.inr (hw _ (List.mem_of_getElem? (i := 62) rfl))) Via.refl e2 F_b1_size (g := (mkF m 8 #[.val (.ref a1), .unset] [(.ref b1), (.int (1 : Int32))])) rfl rfl (hb hby d13_8)
  have h4 : ¬ ((1 : Int32) = (2 : Int32)) := by decide
  obtain ⟨T5, X5, e5, st5⟩ := getF X3 hx hZ hown (host := "") (Or.inl (hw _ (List.mem_of_getElem? (i := 48) rfl))) Via.refl e3 F_a1_this_0 (g := (mkF m 23 #[.val (.ref a1), .unset] [(.ref a1)])) rfl rfl (hb hby d13_23)
  obtain ⟨T6, X6, e6, st6⟩ := getF X5 hx hZ hown (host := "com/example/apportion/apportion/AppendOnlyList") (Or.inr (hw _ (List.mem_of_getElem? (i := 102) rfl))) Via.refl e5 F_b1_chunks (g := (mkF m 26 #[.val (.ref a1), .unset] [(.ref b1)])) rfl rfl (hb hby d13_26)
  obtain ⟨T7, X7, e7, st7⟩ := getF X6 hx hZ hown (host := "") (Or.inl (hw _ (List.mem_of_getElem? (i := 60) rfl))) Via.refl e6 F_a1_next (g := (mkF m 30 #[.val (.ref a1), .unset] [(.ref a1), (.ref t1)])) rfl rfl (hb hby d13_30)
  obtain ⟨cl8, Ar8, -, S8, M8, H8, -⟩ := id A_t1
  have hin8 := inb_of (j := (0 : Int32)) S8 (by decide)
  have hat8 := H8.at hin8 (v := (.ref t2)) (rfl)
  obtain ⟨T9, X9, e9, st9⟩ := getF X7 hx hZ hown (host := "") (Or.inl (hw _ (List.mem_of_getElem? (i := 60) rfl))) Via.refl e7 F_a1_next (g := (mkF m 38 #[.val (.ref a1), .unset] [(.ref a1), (.ref t2)])) rfl rfl (hb hby d13_38)
  obtain ⟨cl10, Ar10, -, S10, M10, H10, -⟩ := id A_t2
  have hin10 := inb_of (j := (1 : Int32)) S10 (by decide)
  have hat10 := H10.at hin10 (v := (.ref el0)) (rfl)
  obtain ⟨T11, X11, e11, st11⟩ := getF X9 hx hZ hown (host := "") (Or.inl (hw _ (List.mem_of_getElem? (i := 60) rfl))) Via.refl e9 F_a1_next (g := (mkF m 49 #[.val (.ref a1), .val (.ref el0)] [(.ref a1), (.ref a1)])) rfl rfl (hb hby d13_49)
  obtain ⟨T12, h12, X12, e12, W12, st12⟩ := putF X11 hx hZ hown (host := "") (Or.inl (hw _ (List.mem_of_getElem? (i := 60) rfl))) Via.refl e11 F_a1_next E_a1 (Or.inl (hw _ (List.mem_of_getElem? (i := 61) rfl))) (hw _ (List.mem_of_getElem? (i := 43) rfl)) (ty := .int) (by decide) rfl rfl (g := (mkF m 54 #[.val (.ref a1), .val (.ref el0)] [(.int (2 : Int32)), (.ref a1)])) rfl rfl (hb hby d13_54)
  have u12_0 := E_a1.wr W12
  have u12_1 := F_a1_next.same W12
  have u12_2 := F_a1_this_0.other W12 (Or.inr (slot_ne (Or.inr (hw _ (List.mem_of_getElem? (i := 49) rfl))) (Or.inl (hw _ (List.mem_of_getElem? (i := 61) rfl))) (by decide) (t := (.object "com/example/apportion/apportion/AppendOnlyList$Prefix")) (t' := .int) (by decide) (by decide)))
  have u12_3 := E_b1.wr W12
  have u12_4 := F_b1_size.other W12 (Or.inl (ne_exa E_b1 E_a1 (by decide)))
  have u12_5 := F_b1_chunks.other W12 (Or.inl (ne_exa E_b1 E_a1 (by decide)))
  have u12_6 := A_t1.other W12 (ne_exa E_t1 E_a1 (by decide))
  have u12_7 := E_t1.wr W12
  have u12_8 := A_t2.other W12 (ne_exa E_t2 E_a1 (by decide))
  have u12_9 := E_t2.wr W12
  have K12 := K0.wr W12 (Or.inl (List.mem_of_getElem? (i := 0) rfl))
  have Z12 : n0 ≤ h12.size := Nat.le_trans Z0 (Keep.of_wr W12).1
  have N12 := Fr.snoc X12 N0 G_a1
  obtain ⟨fs, hr, hrun, hended, hW, hsame⟩ := X12.leave (v := some (.ref el0)) (fun h => by rw [Bd.returns] at h; cases h)
  refine ⟨_, _, ?_, hrun, hended, _, _, rfl, ?_, ⟨_, rfl⟩, hW, hsame.mono (by decide) (by decide)⟩
  · show Steps p.tables e below (s₁.setTop (mkF m 0 #[.val (.ref a1), .unset] [])) _
    refine XS.aloadN X0.here hx rfl (hb hby d13_0) rfl rfl ?_
    show Steps p.tables e below (s₁.setTop (mkF m 1 #[.val (.ref a1), .unset] [(.ref a1)])) _
    refine st1 _ ?_
    show Steps p.tables e below (T1.setTop (mkF m 4 #[.val (.ref a1), .unset] [(.int (1 : Int32))])) _
    refine XS.aloadN X1.here hx rfl (hb hby d13_4) rfl rfl ?_
    show Steps p.tables e below (T1.setTop (mkF m 5 #[.val (.ref a1), .unset] [(.ref a1), (.int (1 : Int32))])) _
    refine st2 _ ?_
    show Steps p.tables e below (T2.setTop (mkF m 8 #[.val (.ref a1), .unset] [(.ref b1), (.int (1 : Int32))])) _
    refine st3 _ ?_
    show Steps p.tables e below (T3.setTop (mkF m 11 #[.val (.ref a1), .unset] [(.int (2 : Int32)), (.int (1 : Int32))])) _
    refine XS.icmpYes X3.here hx rfl (pc0 := 11) (pc' := 22) rfl (hb hby d13_11) rfl (feq h4).2 (by decide) (by decide) ?_
    show Steps p.tables e below (T3.setTop (mkF m 22 #[.val (.ref a1), .unset] [])) _
    refine XS.aloadN X3.here hx rfl (hb hby d13_22) rfl rfl ?_
    show Steps p.tables e below (T3.setTop (mkF m 23 #[.val (.ref a1), .unset] [(.ref a1)])) _
    refine st5 _ ?_
    show Steps p.tables e below (T5.setTop (mkF m 26 #[.val (.ref a1), .unset] [(.ref b1)])) _
    refine st6 _ ?_
    show Steps p.tables e below (T6.setTop (mkF m 29 #[.val (.ref a1), .unset] [(.ref t1)])) _
    refine XS.aloadN X6.here hx rfl (hb hby d13_29) rfl rfl ?_
    show Steps p.tables e below (T6.setTop (mkF m 30 #[.val (.ref a1), .unset] [(.ref a1), (.ref t1)])) _
    refine st7 _ ?_
    show Steps p.tables e below (T7.setTop (mkF m 33 #[.val (.ref a1), .unset] [(.int (1 : Int32)), (.ref t1)])) _
    refine XS.bipush X7.here hx rfl (hb hby d13_33) ?_
    show Steps p.tables e below (T7.setTop (mkF m 35 #[.val (.ref a1), .unset] [(.int (12 : Int32)), (.int (1 : Int32)), (.ref t1)])) _
    refine XT.iushr X7.here hx rfl (hb hby d13_35) rfl ?_
    show Steps p.tables e below (T7.setTop (mkF m 36 #[.val (.ref a1), .unset] [(.int (0 : Int32)), (.ref t1)])) _
    refine X7.aaload hx (j := (0 : Int32)) (v := (.ref t2)) (by rw [e7]; exact Ar8.1) (State.isArrayOf_alike hZ.alike Ar8.2.1) rfl Ar8.2.2 hin8 hat8 (g := (mkF m 36 #[.val (.ref a1), .unset] [(.int (0 : Int32)), (.ref t1)])) rfl rfl (hb hby d13_36) _ ?_
    show Steps p.tables e below (T7.setTop (mkF m 37 #[.val (.ref a1), .unset] [(.ref t2)])) _
    refine XS.aloadN X7.here hx rfl (hb hby d13_37) rfl rfl ?_
    show Steps p.tables e below (T7.setTop (mkF m 38 #[.val (.ref a1), .unset] [(.ref a1), (.ref t2)])) _
    refine st9 _ ?_
    show Steps p.tables e below (T9.setTop (mkF m 41 #[.val (.ref a1), .unset] [(.int (1 : Int32)), (.ref t2)])) _
    refine XS.sipush X9.here hx rfl (hb hby d13_41) ?_
    show Steps p.tables e below (T9.setTop (mkF m 44 #[.val (.ref a1), .unset] [(.int (4095 : Int32)), (.int (1 : Int32)), (.ref t2)])) _
    refine XS.iand X9.here hx rfl (hb hby d13_44) rfl ?_
    show Steps p.tables e below (T9.setTop (mkF m 45 #[.val (.ref a1), .unset] [(.int (1 : Int32)), (.ref t2)])) _
    refine X9.aaload hx (j := (1 : Int32)) (v := (.ref el0)) (by rw [e9]; exact Ar10.1) (State.isArrayOf_alike hZ.alike Ar10.2.1) rfl Ar10.2.2 hin10 hat10 (g := (mkF m 45 #[.val (.ref a1), .unset] [(.int (1 : Int32)), (.ref t2)])) rfl rfl (hb hby d13_45) _ ?_
    show Steps p.tables e below (T9.setTop (mkF m 46 #[.val (.ref a1), .unset] [(.ref el0)])) _
    refine XS.astoreN X9.here hx rfl (hb hby d13_46) rfl rfl (l' := #[.val (.ref a1), .val (.ref el0)]) rfl ?_
    show Steps p.tables e below (T9.setTop (mkF m 47 #[.val (.ref a1), .val (.ref el0)] [])) _
    refine XS.aloadN X9.here hx rfl (hb hby d13_47) rfl rfl ?_
    show Steps p.tables e below (T9.setTop (mkF m 48 #[.val (.ref a1), .val (.ref el0)] [(.ref a1)])) _
    refine XS.dup X9.here hx rfl (hb hby d13_48) rfl rfl ?_
    show Steps p.tables e below (T9.setTop (mkF m 49 #[.val (.ref a1), .val (.ref el0)] [(.ref a1), (.ref a1)])) _
    refine st11 _ ?_
    show Steps p.tables e below (T11.setTop (mkF m 52 #[.val (.ref a1), .val (.ref el0)] [(.int (1 : Int32)), (.ref a1)])) _
    refine XS.iconst X11.here hx rfl (hb hby d13_52) ?_
    show Steps p.tables e below (T11.setTop (mkF m 53 #[.val (.ref a1), .val (.ref el0)] [(.int (1 : Int32)), (.int (1 : Int32)), (.ref a1)])) _
    refine XS.iadd X11.here hx rfl (hb hby d13_53) rfl ?_
    show Steps p.tables e below (T11.setTop (mkF m 54 #[.val (.ref a1), .val (.ref el0)] [(.int (2 : Int32)), (.ref a1)])) _
    refine st12 _ ?_
    show Steps p.tables e below (T12.setTop (mkF m 57 #[.val (.ref a1), .val (.ref el0)] [])) _
    refine XS.aloadN X12.here hx rfl (hb hby d13_57) rfl rfl ?_
    show Steps p.tables e below (T12.setTop (mkF m 58 #[.val (.ref a1), .val (.ref el0)] [(.ref el0)])) _
    jvm_step X12.here [X12.here.top, hx, (hb hby d13_58), X12.method', Bd.returns, Value.isRef, FieldType.isReference]
    first | (intro acts; rw [hr _ acts rfl rfl rfl]) | rw [hr _ _ rfl rfl rfl]
    exact Steps.refl _
  · show Qnx12 Z a1 b1 t1 k1 t2 k2 el0 v0 v2 h0 n0 _ T12.heap _
    rw [e12]
    exact ⟨rfl, N12, K12, u12_0, u12_1, u12_2⟩
theorem pn_0 : plainName "com/example/apportion/apportion/AppendOnlyListPrefixPinLaw" = true := by first | (simp [plainName, overriddenIn]; done) | decide +kernel
theorem ef_0 (m : MethodId) (p1 : Int32) (p2 : Int32) (p3 : Int32) (p4 : Int32) (p5 : Int32) : entryFrame m #[(.int p1), (.int p2), (.int p3), (.int p4), (.int p5)] maxLocals = mkF m 0 #[.val (.int p1), .val (.int p2), .val (.int p3), .val (.int p4), .val (.int p5), .unset, .unset, .unset, .unset, .unset] [] := by first | (simp [entryFrame, mkF, argsToLocals, Value.category, maxLocals]; done) | rfl
def Q0 (Z : State) (p1 : Int32) (p2 : Int32) (p3 : Int32) (p4 : Int32) (p5 : Int32) (h0 : Heap) (n0 : Nat) (v : Option Value) (h : Heap) (L : List Loc) : Prop := v = some (.int (1 : Int32)) ∧ Fr n0 L
set_option maxRecDepth 65536 in
set_option maxHeartbeats 40000000 in
theorem rm0 (l : Launch) (Z : State) (a0 : Array Value) (hw : ∀ d ∈ tables_1, d.before a0 Z = true) (ws : List Jvm.Cond) (p1 : Int32) (p2 : Int32) (p3 : Int32) (p4 : Int32) (p5 : Int32) (h0 : Heap) (n0 : Nat) (Z0 : n0 ≤ h0.size) (OLD : Old Z n0 h0) (hC : own_C Z) :
    MetFree l x (head1 (Jvm.Cond.code x code maxLocals ret :: ws) room_1) (fun a U => a = #[(.int p1), (.int p2), (.int p3), (.int p4), (.int p5)] ∧ Z.Warmed39 U.vm ∧ U.heap = h0) (fun _ _ _ _ _ => True) (fun _ U o U' => ∃ v L, o = .returned v ∧ Q0 Z p1 p2 p3 p4 p5 h0 n0 v U'.heap L ∧ FrameEnd U o U' L room_1.cells room_1.slots) := by
  refine MetFree.of_bodySF (plainFor_of_name pn_0) hisR ?_
  intro p e s m args below meth c s₁ Bd hml0 hP hK
  obtain ⟨rfl, hZ, hh⟩ := hP
  have hx := Bd.exec
  have hby := Bd.bytes
  have hml : c.maxLocals = 10 := hml0
  have hown : s.vm.findClass "com/example/apportion/apportion/AppendOnlyListPrefixPinLaw" = some m.cls := findClass_of_methodNamed Bd.named
  have hnm := (name_of_methodNamed Bd.named Bd.method).1
  have X0 : Stand p l e room_1 s m #[(.int p1), (.int p2), (.int p3), (.int p4), (.int p5)] below meth c s₁ [] 0 0 := Stand.of_body Bd
  have e0 : s₁.heap = h0 := by rw [← hh, Bd.state]; rfl
  have N0 := Fr.nil n0
  have pre0 : ∀ t, Steps p.tables e below (s₁.setTop (mkF m 0 #[.val (.int p1), .val (.int p2), .val (.int p3), .val (.int p4), .val (.int p5), .unset, .unset, .unset, .unset, .unset] [])) t → Steps p.tables e below (s₁.setTop (entryFrame m #[(.int p1), (.int p2), (.int p3), (.int p4), (.int p5)] maxLocals)) t := fun t k => castTop (ef_0 m p1 p2 p3 p4 p5) k
  refine own_step (Q := fun o U' => ∃ v L, o = .returned v ∧ Q0 Z p1 p2 p3 p4 p5 h0 n0 v U'.heap L ∧ FrameEnd s o U' L room_1.cells room_1.slots) pre0 ?_
  have K0 : Keep h0 h0 [] := Keep.refl h0 []
  refine own_step (B := s₁.setTop (mkF m 8 #[.val (.int p1), .val (.int p2), .val (.int p3), .val (.int p4), .val (.int p5), .val (.int (f0_0 p1 p2 p3 p4 p5)), .unset, .unset, .unset, .unset] [])) (fun t k => ?_) ?_
  · show Steps p.tables e below (s₁.setTop (mkF m 0 #[.val (.int p1), .val (.int p2), .val (.int p3), .val (.int p4), .val (.int p5), .unset, .unset, .unset, .unset, .unset] [])) _
    refine XS.iloadN X0.here hx rfl (hb hby at_0) rfl ?_
    show Steps p.tables e below (s₁.setTop (mkF m 1 #[.val (.int p1), .val (.int p2), .val (.int p3), .val (.int p4), .val (.int p5), .unset, .unset, .unset, .unset, .unset] [(.int p1)])) _
    refine X0.ldcInt hx hown (mvT hZ (hw _ (List.mem_of_getElem? (i := 0) rfl))) (g := (mkF m 1 #[.val (.int p1), .val (.int p2), .val (.int p3), .val (.int p4), .val (.int p5), .unset, .unset, .unset, .unset, .unset] [(.int p1)])) rfl (hb hby at_1) _ ?_
    show Steps p.tables e below (s₁.setTop (mkF m 3 #[.val (.int p1), .val (.int p2), .val (.int p3), .val (.int p4), .val (.int p5), .unset, .unset, .unset, .unset, .unset] [(.int (2147483647 : Int32)), (.int p1)])) _
    refine XS.iand X0.here hx rfl (hb hby at_3) rfl ?_
    show Steps p.tables e below (s₁.setTop (mkF m 4 #[.val (.int p1), .val (.int p2), .val (.int p3), .val (.int p4), .val (.int p5), .unset, .unset, .unset, .unset, .unset] [(.int (p1 &&& (2147483647 : Int32)))])) _
    refine XS.iconst X0.here hx rfl (hb hby at_4) ?_
    show Steps p.tables e below (s₁.setTop (mkF m 5 #[.val (.int p1), .val (.int p2), .val (.int p3), .val (.int p4), .val (.int p5), .unset, .unset, .unset, .unset, .unset] [(.int (3 : Int32)), (.int (p1 &&& (2147483647 : Int32)))])) _
    refine XS.irem X0.here hx rfl (hb hby at_5) rfl (by decide) ?_
    show Steps p.tables e below (s₁.setTop (mkF m 6 #[.val (.int p1), .val (.int p2), .val (.int p3), .val (.int p4), .val (.int p5), .unset, .unset, .unset, .unset, .unset] [(.int (f0_0 p1 p2 p3 p4 p5))])) _
    refine XS.istore X0.here hx rfl (hb hby at_6) rfl (l' := #[.val (.int p1), .val (.int p2), .val (.int p3), .val (.int p4), .val (.int p5), .val (.int (f0_0 p1 p2 p3 p4 p5)), .unset, .unset, .unset, .unset]) rfl ?_
    exact k
  rcases own_m3 p1 p2 p3 p4 p5 with hk1 | hk1 | hk1
  · rw [hk1]
    refine own_step (B := s₁.setTop (mkF m 12 #[.val (.int p1), .val (.int p2), .val (.int p3), .val (.int p4), .val (.int p5), .val (.int (0 : Int32)), .unset, .unset, .unset, .unset] [(.int (p5 &&& (1 : Int32)))])) (fun t k => ?_) ?_
    · show Steps p.tables e below (s₁.setTop (mkF m 8 #[.val (.int p1), .val (.int p2), .val (.int p3), .val (.int p4), .val (.int p5), .val (.int (0 : Int32)), .unset, .unset, .unset, .unset] [])) _
      refine XS.iload X0.here hx rfl (hb hby at_8) rfl ?_
      show Steps p.tables e below (s₁.setTop (mkF m 10 #[.val (.int p1), .val (.int p2), .val (.int p3), .val (.int p4), .val (.int p5), .val (.int (0 : Int32)), .unset, .unset, .unset, .unset] [(.int p5)])) _
      refine XS.iconst X0.here hx rfl (hb hby at_10) ?_
      show Steps p.tables e below (s₁.setTop (mkF m 11 #[.val (.int p1), .val (.int p2), .val (.int p3), .val (.int p4), .val (.int p5), .val (.int (0 : Int32)), .unset, .unset, .unset, .unset] [(.int (1 : Int32)), (.int p5)])) _
      refine XS.iand X0.here hx rfl (hb hby at_11) rfl ?_
      exact k
    by_cases h2 : (p5 &&& (1 : Int32)) = (0 : Int32)
    · obtain ⟨T3, h3, X3, e3, E3, A3, D3, -, st3⟩ := newO X0 hx hZ hown (hw _ (List.mem_of_getElem? (i := 1) rfl)) (hw _ (List.mem_of_getElem? (i := 2) rfl)) (hw _ (List.mem_of_getElem? (i := 3) rfl)) e0 (g := (mkF m 22 #[.val (.int p1), .val (.int p2), .val (.int p3), .val (.int p4), .val (.int p5), .val (.int (0 : Int32)), .val (.int (0 : Int32)), .unset, .unset, .unset] [])) rfl (hb hby at_22) (by decide) (by decide)
      obtain ⟨o3, g3⟩ : ∃ z, z = h0.size := ⟨_, rfl⟩
      rw [← g3] at A3 D3 st3
      have ge3 : n0 ≤ o3 := Nat.le_trans Z0 (Nat.le_of_eq g3.symm)
      have Z3 : n0 ≤ h3.size := Nat.le_trans Z0 E3.1
      have sz3 : h0.size ≤ o3 := Nat.le_trans K0.1 (Nat.le_of_eq g3.symm)
      have K3 := K0.ext E3
      have OL3 := OLD.ext E3
      have D3_13 : Fld Z h3 o3 "com/example/apportion/apportion/AppendOnlyList" "chunks" "[[Ljava/lang/Object;" .null := D3 (Or.inl (hw _ (List.mem_of_getElem? (i := 13) rfl))) (ty := (.array (.array (.object "java/lang/Object")))) (by decide)
      have D3_23 : Fld Z h3 o3 "com/example/apportion/apportion/AppendOnlyList" "size" "I" (.int (0 : Int32)) := D3 (Or.inl (hw _ (List.mem_of_getElem? (i := 23) rfl))) (ty := .int) (by decide)
      obtain ⟨_, _, ⟨T4, L4, k4, n4⟩, -, X4, ⟨Lc4, hQ4, l4, y4, z4⟩, st4⟩ := X3.specialBack hx (y := (⟨"com/example/apportion/apportion/AppendOnlyList", "<init>", "()V"⟩ : MethodName)) rfl hown (mvT hZ (hw _ (List.mem_of_getElem? (i := 4) rfl))) (mvT hZ (hw _ (List.mem_of_getElem? (i := 5) rfl))) (mvT hZ (hw _ (List.mem_of_getElem? (i := 6) rfl))) (by decide) (backOf (W := 1) (rm1 l Z a0 hw [] o3 h3 n0 Z3 A3 ge3 D3_13 D3_23) hZ (hw _ (List.mem_of_getElem? (i := 6) rfl)) (hw _ (List.mem_of_getElem? (i := 3) rfl)) (by decide) (by decide)) (g := (mkF m 26 #[.val (.int p1), .val (.int p2), .val (.int p3), .val (.int p4), .val (.int p5), .val (.int (0 : Int32)), .val (.int (0 : Int32)), .unset, .unset, .unset] [(.ref o3), (.ref o3)])) rfl (by rw [hml]; rfl) (Steps.refl _) (a := o3) (argsL := []) (rest := [(.ref o3)]) (lenOf pd_0 rfl) rfl (by show 2 * 0 + _ ≤ _; exact Nat.le_of_eq rfl) (hb hby at_26) (fun _ _ => ⟨rfl, e3, (by decide : 1 + 1 ≤ _), (by decide : 2 + 1 ≤ _)⟩)
      dsimp only [Pt.U, Pt.locs, Pt.cells, Pt.slots] at X4 l4 y4 z4 st4 hQ4
      subst l4 y4 z4
      obtain ⟨t14, k_t14, rfl, N4q, Kc4, fr4_t1, c4_0, c4_1, c4_2, c4_3, c4_4, c4_5⟩ := hQ4
      have N4 := Fr.app N0 N4q
      have ne4_t1_1 : o3 ≠ t14 := Nat.ne_of_lt (Nat.lt_of_lt_of_le A3.lt fr4_t1)
      have ge4_t1 : n0 ≤ t14 := Nat.le_trans Z3 fr4_t1
      have sz4_t1 : h0.size ≤ t14 := Nat.le_trans K3.1 fr4_t1
      have u4_0 := A3.keep Kc4
      have OL4 := OL3.keep Kc4 (fun x hx => by cases List.mem_singleton.mp hx; exact ge3)
      have K4 := K3.trans Kc4 (fun x hx => by cases List.mem_singleton.mp hx; exact Or.inr sz3)
      have Z4 : n0 ≤ T4.heap.size := Nat.le_trans Z3 Kc4.1
      have h5 : (0 : Int32) < (1 : Int32) := by decide
      have h6 : (0 : Int32) < (2 : Int32) := by decide
      obtain ⟨cq7, kq7, q7a, q7b, q7c⟩ := isOf hZ rfl c4_1
      obtain ⟨_, _, ⟨T7, L7, k7, n7⟩, -, X7, ⟨Lc7, hQ7, l7, y7, z7⟩, st7⟩ := X4.virtualBack hx (y := (⟨"com/example/apportion/apportion/AppendOnlyList", "prefix", "()Lcom/example/apportion/apportion/AppendOnlyList$Prefix;"⟩ : MethodName)) (z := (⟨"com/example/apportion/apportion/AppendOnlyList", "prefix", "()Lcom/example/apportion/apportion/AppendOnlyList$Prefix;"⟩ : MethodName)) hown (mvT hZ (hw _ (List.mem_of_getElem? (i := 14) rfl))) (mvT hZ (hw _ (List.mem_of_getElem? (i := 15) rfl))) (notFace_of_selects (args := #[]) (mvT hZ (hw _ (List.mem_of_getElem? (i := 17) rfl)))) (mvT hZ (hw _ (List.mem_of_getElem? (i := 17) rfl))) (mvT hZ (hw _ (List.mem_of_getElem? (i := 16) rfl))) (by decide) (backOf (W := 0) (rm3 l Z a0 hw [] o3 t14 (0 : Int32) T4.heap n0 Z4 c4_3 c4_4) hZ (hw _ (List.mem_of_getElem? (i := 18) rfl)) (hw _ (List.mem_of_getElem? (i := 3) rfl)) (by decide) (by decide)) q7a q7c (g := (mkF m 63 #[.val (.int p1), .val (.int p2), .val (.int p3), .val (.int p4), .val (.int p5), .val (.int (0 : Int32)), .val (.int (0 : Int32)), .val (.ref o3), .unset, .unset] [(.ref o3)])) rfl (by rw [hml]; rfl) (Steps.refl _) (argsL := []) (rest := []) (lenOf pd_4 rfl) rfl (by show 2 * 0 + _ ≤ _; exact Nat.le_of_eq rfl) (hb hby at_63) (fun _ _ => ⟨rfl, rfl, (by decide : 2 + 1 ≤ _), (by decide : 3 + 2 ≤ _)⟩)
      dsimp only [Pt.U, Pt.locs, Pt.cells, Pt.slots] at X7 l7 y7 z7 st7 hQ7
      subst l7 y7 z7
      obtain ⟨r7, rfl, N7q, Kc7, fr7_r, c7_0, c7_1, c7_2⟩ := hQ7
      have N7 := Fr.app N4 N7q
      have ne7_r_1 : o3 ≠ r7 := Nat.ne_of_lt (Nat.lt_of_lt_of_le c4_1.lt fr7_r)
      have ne7_r_2 : t14 ≠ r7 := Nat.ne_of_lt (Nat.lt_of_lt_of_le c4_0.lt fr7_r)
      have ge7_r : n0 ≤ r7 := Nat.le_trans Z4 fr7_r
      have sz7_r : h0.size ≤ r7 := Nat.le_trans K4.1 fr7_r
      have u7_0 := c4_1.keep Kc7
      have u7_1 := c4_0.keep Kc7 (List.not_mem_nil)
      have u7_2 := c4_2.keep Kc7
      have u7_3 := c4_3.keep Kc7 (List.not_mem_nil)
      have u7_4 := c4_4.keep Kc7 (List.not_mem_nil)
      have OL7 := OL4.keep Kc7 (fun x hx => absurd hx List.not_mem_nil)
      have K7 := K4.trans Kc7 (fun x hx => absurd hx List.not_mem_nil)
      have Z7 : n0 ≤ T7.heap.size := Nat.le_trans Z4 Kc7.1
      have h8 : (0 : Int32) = (0 : Int32) := by decide
      obtain ⟨cq9, kq9, q9a, q9b, q9c⟩ := isOf hZ rfl c7_0
      obtain ⟨_, _, ⟨T9, L9, k9, n9⟩, -, X9, ⟨Lc9, hQ9, l9, y9, z9⟩, st9⟩ := X7.virtualBack hx (y := (⟨"com/example/apportion/apportion/AppendOnlyList$Prefix", "size", "()I"⟩ : MethodName)) (z := (⟨"com/example/apportion/apportion/AppendOnlyList$Prefix", "size", "()I"⟩ : MethodName)) hown (mvT hZ (hw _ (List.mem_of_getElem? (i := 32) rfl))) (mvT hZ (hw _ (List.mem_of_getElem? (i := 33) rfl))) (notFace_of_selects (args := #[]) (mvT hZ (hw _ (List.mem_of_getElem? (i := 35) rfl)))) (mvT hZ (hw _ (List.mem_of_getElem? (i := 35) rfl))) (mvT hZ (hw _ (List.mem_of_getElem? (i := 34) rfl))) (by decide) (backOf (W := 0) (rm5 l Z a0 hw [] r7 (0 : Int32) T7.heap n0 Z7 c7_2) hZ (hw _ (List.mem_of_getElem? (i := 36) rfl)) (hw _ (List.mem_of_getElem? (i := 21) rfl)) (by decide) (by decide)) q9a q9c (g := (mkF m 84 #[.val (.int p1), .val (.int p2), .val (.int p3), .val (.int p4), .val (.int p5), .val (.int (0 : Int32)), .val (.int (0 : Int32)), .val (.ref o3), .val (.ref r7), .unset] [(.ref r7)])) rfl (by rw [hml]; rfl) (Steps.refl _) (argsL := []) (rest := []) (lenOf pd_5 rfl) rfl (by show 2 * 0 + _ ≤ _; exact Nat.le_of_eq rfl) (hb hby at_84) (fun _ _ => ⟨rfl, rfl, (by decide : 3 + 0 ≤ _), (by decide : 5 + 0 ≤ _)⟩)
      dsimp only [Pt.U, Pt.locs, Pt.cells, Pt.slots] at X9 l9 y9 z9 st9 hQ9
      subst l9 y9 z9
      obtain ⟨hv9, N9q, e9⟩ := hQ9
      rw [show f5 r7 (0 : Int32) = (0 : Int32) from rfl] at hv9
      subst hv9
      have N9 := Fr.app N7 N9q
      have h10 : (0 : Int32) = (0 : Int32) := by decide
      obtain ⟨cq11, kq11, q11a, q11b, q11c⟩ := isOf hZ e9 c7_0
      obtain ⟨_, _, ⟨T11, L11, k11, n11⟩, -, X11, ⟨Lc11, hQ11, l11, y11, z11⟩, st11⟩ := X9.virtualBack hx (y := (⟨"com/example/apportion/apportion/AppendOnlyList$Prefix", "iterator", "()Ljava/util/Iterator;"⟩ : MethodName)) (z := (⟨"com/example/apportion/apportion/AppendOnlyList$Prefix", "iterator", "()Ljava/util/Iterator;"⟩ : MethodName)) hown (mvT hZ (hw _ (List.mem_of_getElem? (i := 37) rfl))) (mvT hZ (hw _ (List.mem_of_getElem? (i := 38) rfl))) (notFace_of_selects (args := #[]) (mvT hZ (hw _ (List.mem_of_getElem? (i := 40) rfl)))) (mvT hZ (hw _ (List.mem_of_getElem? (i := 40) rfl))) (mvT hZ (hw _ (List.mem_of_getElem? (i := 39) rfl))) (by decide) (backOf (W := 0) (rm6 l Z a0 hw [] r7 T7.heap n0 Z7) hZ (hw _ (List.mem_of_getElem? (i := 41) rfl)) (hw _ (List.mem_of_getElem? (i := 21) rfl)) (by decide) (by decide)) q11a q11c (g := (mkF m 96 #[.val (.int p1), .val (.int p2), .val (.int p3), .val (.int p4), .val (.int p5), .val (.int (0 : Int32)), .val (.int (0 : Int32)), .val (.ref o3), .val (.ref r7), .unset] [(.ref r7)])) rfl (by rw [hml]; rfl) (Steps.refl _) (argsL := []) (rest := []) (lenOf pd_6 rfl) rfl (by show 2 * 0 + _ ≤ _; exact Nat.le_of_eq rfl) (hb hby at_96) (fun _ _ => ⟨rfl, e9, (by decide : 3 + 1 ≤ _), (by decide : 5 + 2 ≤ _)⟩)
      dsimp only [Pt.U, Pt.locs, Pt.cells, Pt.slots] at X11 l11 y11 z11 st11 hQ11
      subst l11 y11 z11
      obtain ⟨r11, rfl, N11q, Kc11, fr11_r, c11_0, c11_1, c11_2⟩ := hQ11
      have N11 := Fr.app N9 N11q
      have ne11_r_1 : o3 ≠ r11 := Nat.ne_of_lt (Nat.lt_of_lt_of_le u7_0.lt fr11_r)
      have ne11_r_2 : t14 ≠ r11 := Nat.ne_of_lt (Nat.lt_of_lt_of_le u7_1.lt fr11_r)
      have ne11_r_3 : r7 ≠ r11 := Nat.ne_of_lt (Nat.lt_of_lt_of_le c7_0.lt fr11_r)
      have ge11_r : n0 ≤ r11 := Nat.le_trans Z7 fr11_r
      have sz11_r : h0.size ≤ r11 := Nat.le_trans K7.1 fr11_r
      have u11_0 := u7_0.keep Kc11
      have u11_1 := u7_1.keep Kc11 (List.not_mem_nil)
      have u11_2 := u7_2.keep Kc11
      have u11_3 := u7_3.keep Kc11 (List.not_mem_nil)
      have u11_4 := u7_4.keep Kc11 (List.not_mem_nil)
      have u11_5 := c7_0.keep Kc11
      have u11_6 := c7_1.keep Kc11 (List.not_mem_nil)
      have u11_7 := c7_2.keep Kc11 (List.not_mem_nil)
      have OL11 := OL7.keep Kc11 (fun x hx => absurd hx List.not_mem_nil)
      have K11 := K7.trans Kc11 (fun x hx => absurd hx List.not_mem_nil)
      have Z11 : n0 ≤ T11.heap.size := Nat.le_trans Z7 Kc11.1
      have h12 : (0 : Int32) < (1 : Int32) := by decide
      have h13 : (0 : Int32) < (2 : Int32) := by decide
      obtain ⟨cq14, kq14, q14a, q14b, q14c⟩ := isOf hZ rfl c11_0
      obtain ⟨_, _, ⟨T14, L14, k14, n14⟩, -, X14, ⟨Lc14, hQ14, l14, y14, z14⟩, st14⟩ := X11.interfaceBack hx (xi := (⟨"java/util/Iterator", "hasNext", "()Z"⟩ : MethodName)) (y := (⟨"com/example/apportion/apportion/AppendOnlyList$Prefix$1", "hasNext", "()Z"⟩ : MethodName)) hown (mvT hZ (hw _ (List.mem_of_getElem? (i := 51) rfl))) (mvT hZ (hw _ (List.mem_of_getElem? (i := 52) rfl))) (mvT hZ (hw _ (List.mem_of_getElem? (i := 53) rfl))) (mvT hZ (hw _ (List.mem_of_getElem? (i := 54) rfl))) (mvT hZ (hw _ (List.mem_of_getElem? (i := 55) rfl))) (mvT hZ (hw _ (List.mem_of_getElem? (i := 56) rfl))) (mvT hZ (hw _ (List.mem_of_getElem? (i := 57) rfl))) (mvT hZ (hw _ (List.mem_of_getElem? (i := 58) rfl))) (by decide) (backOf (W := 0) (rm8 l Z a0 hw [] r11 (0 : Int32) r7 (0 : Int32) T11.heap n0 Z11 c11_1 c11_2 u11_7) hZ (hw _ (List.mem_of_getElem? (i := 59) rfl)) (hw _ (List.mem_of_getElem? (i := 44) rfl)) (by decide) (by decide)) q14a q14b q14c (g := (mkF m 153 #[.val (.int p1), .val (.int p2), .val (.int p3), .val (.int p4), .val (.int p5), .val (.int (0 : Int32)), .val (.int (0 : Int32)), .val (.ref o3), .val (.ref r7), .val (.ref r11)] [(.ref r11)])) rfl (by rw [hml]; rfl) (Steps.refl _) (argsL := []) (rest := []) (lenOf pd_7 rfl) rfl (by show 2 * 0 + _ ≤ _; exact Nat.le_of_eq rfl) (hb hby at_153) (fun _ _ => ⟨rfl, rfl, (by decide : 4 + 0 ≤ _), (by decide : 7 + 0 ≤ _)⟩)
      dsimp only [Pt.U, Pt.locs, Pt.cells, Pt.slots] at X14 l14 y14 z14 st14 hQ14
      subst l14 y14 z14
      obtain ⟨hv14, N14q, e14⟩ := hQ14
      rw [show f8 r11 (0 : Int32) r7 (0 : Int32) = (0 : Int32) from if_neg (by decide)] at hv14
      subst hv14
      have N14 := Fr.app N11 N14q
      have h15 : (0 : Int32) = (0 : Int32) := by decide
      obtain ⟨fs, hr, hrun, hended, hW, hsame⟩ := X14.leave (v := some (.int (1 : Int32))) (fun h => by rw [Bd.returns] at h; cases h)
      refine ⟨_, _, ?_, hrun, hended, _, _, rfl, ?_, ⟨_, rfl⟩, hW, hsame.mono (by decide) (by decide)⟩
      · show Steps p.tables e below (s₁.setTop (mkF m 12 #[.val (.int p1), .val (.int p2), .val (.int p3), .val (.int p4), .val (.int p5), .val (.int (0 : Int32)), .unset, .unset, .unset, .unset] [(.int (p5 &&& (1 : Int32)))])) _
        refine XS.ifYes X0.here hx rfl (pc0 := 12) (pc' := 19) rfl (hb hby at_12) rfl ((if0 _ _).trans (teq h2).1) (by decide) (by decide) ?_
        show Steps p.tables e below (s₁.setTop (mkF m 19 #[.val (.int p1), .val (.int p2), .val (.int p3), .val (.int p4), .val (.int p5), .val (.int (0 : Int32)), .unset, .unset, .unset, .unset] [])) _
        refine XS.iconst X0.here hx rfl (hb hby at_19) ?_
        show Steps p.tables e below (s₁.setTop (mkF m 20 #[.val (.int p1), .val (.int p2), .val (.int p3), .val (.int p4), .val (.int p5), .val (.int (0 : Int32)), .unset, .unset, .unset, .unset] [(.int (0 : Int32))])) _
        refine XS.istore X0.here hx rfl (hb hby at_20) rfl (l' := #[.val (.int p1), .val (.int p2), .val (.int p3), .val (.int p4), .val (.int p5), .val (.int (0 : Int32)), .val (.int (0 : Int32)), .unset, .unset, .unset]) rfl ?_
        show Steps p.tables e below (s₁.setTop (mkF m 22 #[.val (.int p1), .val (.int p2), .val (.int p3), .val (.int p4), .val (.int p5), .val (.int (0 : Int32)), .val (.int (0 : Int32)), .unset, .unset, .unset] [])) _
        refine st3 _ ?_
        show Steps p.tables e below (T3.setTop (mkF m 25 #[.val (.int p1), .val (.int p2), .val (.int p3), .val (.int p4), .val (.int p5), .val (.int (0 : Int32)), .val (.int (0 : Int32)), .unset, .unset, .unset] [(.ref o3)])) _
        refine XS.dup X3.here hx rfl (hb hby at_25) rfl rfl ?_
        show Steps p.tables e below (T3.setTop (mkF m 26 #[.val (.int p1), .val (.int p2), .val (.int p3), .val (.int p4), .val (.int p5), .val (.int (0 : Int32)), .val (.int (0 : Int32)), .unset, .unset, .unset] [(.ref o3), (.ref o3)])) _
        refine st4.trans ?_
        show Steps p.tables e below (T4.setTop (mkF m 29 #[.val (.int p1), .val (.int p2), .val (.int p3), .val (.int p4), .val (.int p5), .val (.int (0 : Int32)), .val (.int (0 : Int32)), .unset, .unset, .unset] [(.ref o3)])) _
        refine XS.astore X4.here hx rfl (hb hby at_29) rfl rfl (l' := #[.val (.int p1), .val (.int p2), .val (.int p3), .val (.int p4), .val (.int p5), .val (.int (0 : Int32)), .val (.int (0 : Int32)), .val (.ref o3), .unset, .unset]) rfl ?_
        show Steps p.tables e below (T4.setTop (mkF m 31 #[.val (.int p1), .val (.int p2), .val (.int p3), .val (.int p4), .val (.int p5), .val (.int (0 : Int32)), .val (.int (0 : Int32)), .val (.ref o3), .unset, .unset] [])) _
        refine XS.iload X4.here hx rfl (hb hby at_31) rfl ?_
        show Steps p.tables e below (T4.setTop (mkF m 33 #[.val (.int p1), .val (.int p2), .val (.int p3), .val (.int p4), .val (.int p5), .val (.int (0 : Int32)), .val (.int (0 : Int32)), .val (.ref o3), .unset, .unset] [(.int (0 : Int32))])) _
        refine XS.iconst X4.here hx rfl (hb hby at_33) ?_
        show Steps p.tables e below (T4.setTop (mkF m 34 #[.val (.int p1), .val (.int p2), .val (.int p3), .val (.int p4), .val (.int p5), .val (.int (0 : Int32)), .val (.int (0 : Int32)), .val (.ref o3), .unset, .unset] [(.int (1 : Int32)), (.int (0 : Int32))])) _
        refine XS.icmpYes X4.here hx rfl (pc0 := 34) (pc' := 46) rfl (hb hby at_34) rfl (tlt h5).1 (by decide) (by decide) ?_
        show Steps p.tables e below (T4.setTop (mkF m 46 #[.val (.int p1), .val (.int p2), .val (.int p3), .val (.int p4), .val (.int p5), .val (.int (0 : Int32)), .val (.int (0 : Int32)), .val (.ref o3), .unset, .unset] [])) _
        refine XS.iload X4.here hx rfl (hb hby at_46) rfl ?_
        show Steps p.tables e below (T4.setTop (mkF m 48 #[.val (.int p1), .val (.int p2), .val (.int p3), .val (.int p4), .val (.int p5), .val (.int (0 : Int32)), .val (.int (0 : Int32)), .val (.ref o3), .unset, .unset] [(.int (0 : Int32))])) _
        refine XS.iconst X4.here hx rfl (hb hby at_48) ?_
        show Steps p.tables e below (T4.setTop (mkF m 49 #[.val (.int p1), .val (.int p2), .val (.int p3), .val (.int p4), .val (.int p5), .val (.int (0 : Int32)), .val (.int (0 : Int32)), .val (.ref o3), .unset, .unset] [(.int (2 : Int32)), (.int (0 : Int32))])) _
        refine XS.icmpYes X4.here hx rfl (pc0 := 49) (pc' := 61) rfl (hb hby at_49) rfl (tlt h6).1 (by decide) (by decide) ?_
        show Steps p.tables e below (T4.setTop (mkF m 61 #[.val (.int p1), .val (.int p2), .val (.int p3), .val (.int p4), .val (.int p5), .val (.int (0 : Int32)), .val (.int (0 : Int32)), .val (.ref o3), .unset, .unset] [])) _
        refine XS.aload X4.here hx rfl (hb hby at_61) rfl rfl ?_
        show Steps p.tables e below (T4.setTop (mkF m 63 #[.val (.int p1), .val (.int p2), .val (.int p3), .val (.int p4), .val (.int p5), .val (.int (0 : Int32)), .val (.int (0 : Int32)), .val (.ref o3), .unset, .unset] [(.ref o3)])) _
        refine st7.trans ?_
        show Steps p.tables e below (T7.setTop (mkF m 66 #[.val (.int p1), .val (.int p2), .val (.int p3), .val (.int p4), .val (.int p5), .val (.int (0 : Int32)), .val (.int (0 : Int32)), .val (.ref o3), .unset, .unset] [(.ref r7)])) _
        refine XS.astore X7.here hx rfl (hb hby at_66) rfl rfl (l' := #[.val (.int p1), .val (.int p2), .val (.int p3), .val (.int p4), .val (.int p5), .val (.int (0 : Int32)), .val (.int (0 : Int32)), .val (.ref o3), .val (.ref r7), .unset]) rfl ?_
        show Steps p.tables e below (T7.setTop (mkF m 68 #[.val (.int p1), .val (.int p2), .val (.int p3), .val (.int p4), .val (.int p5), .val (.int (0 : Int32)), .val (.int (0 : Int32)), .val (.ref o3), .val (.ref r7), .unset] [])) _
        refine XS.iload X7.here hx rfl (hb hby at_68) rfl ?_
        show Steps p.tables e below (T7.setTop (mkF m 70 #[.val (.int p1), .val (.int p2), .val (.int p3), .val (.int p4), .val (.int p5), .val (.int (0 : Int32)), .val (.int (0 : Int32)), .val (.ref o3), .val (.ref r7), .unset] [(.int (0 : Int32))])) _
        refine XS.ifYes X7.here hx rfl (pc0 := 70) (pc' := 82) rfl (hb hby at_70) rfl ((if0 _ _).trans (teq h8).1) (by decide) (by decide) ?_
        show Steps p.tables e below (T7.setTop (mkF m 82 #[.val (.int p1), .val (.int p2), .val (.int p3), .val (.int p4), .val (.int p5), .val (.int (0 : Int32)), .val (.int (0 : Int32)), .val (.ref o3), .val (.ref r7), .unset] [])) _
        refine XS.aload X7.here hx rfl (hb hby at_82) rfl rfl ?_
        show Steps p.tables e below (T7.setTop (mkF m 84 #[.val (.int p1), .val (.int p2), .val (.int p3), .val (.int p4), .val (.int p5), .val (.int (0 : Int32)), .val (.int (0 : Int32)), .val (.ref o3), .val (.ref r7), .unset] [(.ref r7)])) _
        refine st9.trans ?_
        show Steps p.tables e below (T9.setTop (mkF m 87 #[.val (.int p1), .val (.int p2), .val (.int p3), .val (.int p4), .val (.int p5), .val (.int (0 : Int32)), .val (.int (0 : Int32)), .val (.ref o3), .val (.ref r7), .unset] [(.int (0 : Int32))])) _
        refine XS.iload X9.here hx rfl (hb hby at_87) rfl ?_
        show Steps p.tables e below (T9.setTop (mkF m 89 #[.val (.int p1), .val (.int p2), .val (.int p3), .val (.int p4), .val (.int p5), .val (.int (0 : Int32)), .val (.int (0 : Int32)), .val (.ref o3), .val (.ref r7), .unset] [(.int (0 : Int32)), (.int (0 : Int32))])) _
        refine XS.icmpYes X9.here hx rfl (pc0 := 89) (pc' := 94) rfl (hb hby at_89) rfl (teq h10).1 (by decide) (by decide) ?_
        show Steps p.tables e below (T9.setTop (mkF m 94 #[.val (.int p1), .val (.int p2), .val (.int p3), .val (.int p4), .val (.int p5), .val (.int (0 : Int32)), .val (.int (0 : Int32)), .val (.ref o3), .val (.ref r7), .unset] [])) _
        refine XS.aload X9.here hx rfl (hb hby at_94) rfl rfl ?_
        show Steps p.tables e below (T9.setTop (mkF m 96 #[.val (.int p1), .val (.int p2), .val (.int p3), .val (.int p4), .val (.int p5), .val (.int (0 : Int32)), .val (.int (0 : Int32)), .val (.ref o3), .val (.ref r7), .unset] [(.ref r7)])) _
        refine st11.trans ?_
        show Steps p.tables e below (T11.setTop (mkF m 99 #[.val (.int p1), .val (.int p2), .val (.int p3), .val (.int p4), .val (.int p5), .val (.int (0 : Int32)), .val (.int (0 : Int32)), .val (.ref o3), .val (.ref r7), .unset] [(.ref r11)])) _
        refine XS.astore X11.here hx rfl (hb hby at_99) rfl rfl (l' := #[.val (.int p1), .val (.int p2), .val (.int p3), .val (.int p4), .val (.int p5), .val (.int (0 : Int32)), .val (.int (0 : Int32)), .val (.ref o3), .val (.ref r7), .val (.ref r11)]) rfl ?_
        show Steps p.tables e below (T11.setTop (mkF m 101 #[.val (.int p1), .val (.int p2), .val (.int p3), .val (.int p4), .val (.int p5), .val (.int (0 : Int32)), .val (.int (0 : Int32)), .val (.ref o3), .val (.ref r7), .val (.ref r11)] [])) _
        refine XS.iload X11.here hx rfl (hb hby at_101) rfl ?_
        show Steps p.tables e below (T11.setTop (mkF m 103 #[.val (.int p1), .val (.int p2), .val (.int p3), .val (.int p4), .val (.int p5), .val (.int (0 : Int32)), .val (.int (0 : Int32)), .val (.ref o3), .val (.ref r7), .val (.ref r11)] [(.int (0 : Int32))])) _
        refine XS.iconst X11.here hx rfl (hb hby at_103) ?_
        show Steps p.tables e below (T11.setTop (mkF m 104 #[.val (.int p1), .val (.int p2), .val (.int p3), .val (.int p4), .val (.int p5), .val (.int (0 : Int32)), .val (.int (0 : Int32)), .val (.ref o3), .val (.ref r7), .val (.ref r11)] [(.int (1 : Int32)), (.int (0 : Int32))])) _
        refine XS.icmpYes X11.here hx rfl (pc0 := 104) (pc' := 126) rfl (hb hby at_104) rfl (tlt h12).1 (by decide) (by decide) ?_
        show Steps p.tables e below (T11.setTop (mkF m 126 #[.val (.int p1), .val (.int p2), .val (.int p3), .val (.int p4), .val (.int p5), .val (.int (0 : Int32)), .val (.int (0 : Int32)), .val (.ref o3), .val (.ref r7), .val (.ref r11)] [])) _
        refine XS.iload X11.here hx rfl (hb hby at_126) rfl ?_
        show Steps p.tables e below (T11.setTop (mkF m 128 #[.val (.int p1), .val (.int p2), .val (.int p3), .val (.int p4), .val (.int p5), .val (.int (0 : Int32)), .val (.int (0 : Int32)), .val (.ref o3), .val (.ref r7), .val (.ref r11)] [(.int (0 : Int32))])) _
        refine XS.iconst X11.here hx rfl (hb hby at_128) ?_
        show Steps p.tables e below (T11.setTop (mkF m 129 #[.val (.int p1), .val (.int p2), .val (.int p3), .val (.int p4), .val (.int p5), .val (.int (0 : Int32)), .val (.int (0 : Int32)), .val (.ref o3), .val (.ref r7), .val (.ref r11)] [(.int (2 : Int32)), (.int (0 : Int32))])) _
        refine XS.icmpYes X11.here hx rfl (pc0 := 129) (pc' := 151) rfl (hb hby at_129) rfl (tlt h13).1 (by decide) (by decide) ?_
        show Steps p.tables e below (T11.setTop (mkF m 151 #[.val (.int p1), .val (.int p2), .val (.int p3), .val (.int p4), .val (.int p5), .val (.int (0 : Int32)), .val (.int (0 : Int32)), .val (.ref o3), .val (.ref r7), .val (.ref r11)] [])) _
        refine XS.aload X11.here hx rfl (hb hby at_151) rfl rfl ?_
        show Steps p.tables e below (T11.setTop (mkF m 153 #[.val (.int p1), .val (.int p2), .val (.int p3), .val (.int p4), .val (.int p5), .val (.int (0 : Int32)), .val (.int (0 : Int32)), .val (.ref o3), .val (.ref r7), .val (.ref r11)] [(.ref r11)])) _
        refine st14.trans ?_
        show Steps p.tables e below (T14.setTop (mkF m 158 #[.val (.int p1), .val (.int p2), .val (.int p3), .val (.int p4), .val (.int p5), .val (.int (0 : Int32)), .val (.int (0 : Int32)), .val (.ref o3), .val (.ref r7), .val (.ref r11)] [(.int (0 : Int32))])) _
        refine XS.ifNo X14.here hx rfl (hb hby at_158) rfl ((if0 _ _).trans (teq h15).2) ?_
        show Steps p.tables e below (T14.setTop (mkF m 161 #[.val (.int p1), .val (.int p2), .val (.int p3), .val (.int p4), .val (.int p5), .val (.int (0 : Int32)), .val (.int (0 : Int32)), .val (.ref o3), .val (.ref r7), .val (.ref r11)] [])) _
        refine XS.iconst X14.here hx rfl (hb hby at_161) ?_
        show Steps p.tables e below (T14.setTop (mkF m 162 #[.val (.int p1), .val (.int p2), .val (.int p3), .val (.int p4), .val (.int p5), .val (.int (0 : Int32)), .val (.int (0 : Int32)), .val (.ref o3), .val (.ref r7), .val (.ref r11)] [(.int (1 : Int32))])) _
        refine XS.goto X14.here hx rfl (pc0 := 162) (pc' := 166) rfl (hb hby at_162) (by decide) (by decide) ?_
        show Steps p.tables e below (T14.setTop (mkF m 166 #[.val (.int p1), .val (.int p2), .val (.int p3), .val (.int p4), .val (.int p5), .val (.int (0 : Int32)), .val (.int (0 : Int32)), .val (.ref o3), .val (.ref r7), .val (.ref r11)] [(.int (1 : Int32))])) _
        exact retN X14 hx (t := .boolean) Bd.returns (by simp) (hb hby at_166) hr
      · show Q0 Z p1 p2 p3 p4 p5 h0 n0 _ T14.heap _
        rw [e14]
        exact ⟨rfl, N14⟩
    · obtain ⟨T16, h16, X16, e16, E16, A16, D16, -, st16⟩ := newO X0 hx hZ hown (hw _ (List.mem_of_getElem? (i := 1) rfl)) (hw _ (List.mem_of_getElem? (i := 2) rfl)) (hw _ (List.mem_of_getElem? (i := 3) rfl)) e0 (g := (mkF m 22 #[.val (.int p1), .val (.int p2), .val (.int p3), .val (.int p4), .val (.int p5), .val (.int (0 : Int32)), .val (.int (1 : Int32)), .unset, .unset, .unset] [])) rfl (hb hby at_22) (by decide) (by decide)
      obtain ⟨o16, g16⟩ : ∃ z, z = h0.size := ⟨_, rfl⟩
      rw [← g16] at A16 D16 st16
      have ge16 : n0 ≤ o16 := Nat.le_trans Z0 (Nat.le_of_eq g16.symm)
      have Z16 : n0 ≤ h16.size := Nat.le_trans Z0 E16.1
      have sz16 : h0.size ≤ o16 := Nat.le_trans K0.1 (Nat.le_of_eq g16.symm)
      have K16 := K0.ext E16
      have OL16 := OLD.ext E16
      have D16_13 : Fld Z h16 o16 "com/example/apportion/apportion/AppendOnlyList" "chunks" "[[Ljava/lang/Object;" .null := D16 (Or.inl (hw _ (List.mem_of_getElem? (i := 13) rfl))) (ty := (.array (.array (.object "java/lang/Object")))) (by decide)
      have D16_23 : Fld Z h16 o16 "com/example/apportion/apportion/AppendOnlyList" "size" "I" (.int (0 : Int32)) := D16 (Or.inl (hw _ (List.mem_of_getElem? (i := 23) rfl))) (ty := .int) (by decide)
      obtain ⟨_, _, ⟨T17, L17, k17, n17⟩, -, X17, ⟨Lc17, hQ17, l17, y17, z17⟩, st17⟩ := X16.specialBack hx (y := (⟨"com/example/apportion/apportion/AppendOnlyList", "<init>", "()V"⟩ : MethodName)) rfl hown (mvT hZ (hw _ (List.mem_of_getElem? (i := 4) rfl))) (mvT hZ (hw _ (List.mem_of_getElem? (i := 5) rfl))) (mvT hZ (hw _ (List.mem_of_getElem? (i := 6) rfl))) (by decide) (backOf (W := 1) (rm1 l Z a0 hw [] o16 h16 n0 Z16 A16 ge16 D16_13 D16_23) hZ (hw _ (List.mem_of_getElem? (i := 6) rfl)) (hw _ (List.mem_of_getElem? (i := 3) rfl)) (by decide) (by decide)) (g := (mkF m 26 #[.val (.int p1), .val (.int p2), .val (.int p3), .val (.int p4), .val (.int p5), .val (.int (0 : Int32)), .val (.int (1 : Int32)), .unset, .unset, .unset] [(.ref o16), (.ref o16)])) rfl (by rw [hml]; rfl) (Steps.refl _) (a := o16) (argsL := []) (rest := [(.ref o16)]) (lenOf pd_0 rfl) rfl (by show 2 * 0 + _ ≤ _; exact Nat.le_of_eq rfl) (hb hby at_26) (fun _ _ => ⟨rfl, e16, (by decide : 1 + 1 ≤ _), (by decide : 2 + 1 ≤ _)⟩)
      dsimp only [Pt.U, Pt.locs, Pt.cells, Pt.slots] at X17 l17 y17 z17 st17 hQ17
      subst l17 y17 z17
      obtain ⟨t117, k_t117, rfl, N17q, Kc17, fr17_t1, c17_0, c17_1, c17_2, c17_3, c17_4, c17_5⟩ := hQ17
      have N17 := Fr.app N0 N17q
      have ne17_t1_1 : o16 ≠ t117 := Nat.ne_of_lt (Nat.lt_of_lt_of_le A16.lt fr17_t1)
      have ge17_t1 : n0 ≤ t117 := Nat.le_trans Z16 fr17_t1
      have sz17_t1 : h0.size ≤ t117 := Nat.le_trans K16.1 fr17_t1
      have u17_0 := A16.keep Kc17
      have OL17 := OL16.keep Kc17 (fun x hx => by cases List.mem_singleton.mp hx; exact ge16)
      have K17 := K16.trans Kc17 (fun x hx => by cases List.mem_singleton.mp hx; exact Or.inr sz16)
      have Z17 : n0 ≤ T17.heap.size := Nat.le_trans Z16 Kc17.1
      have h18 : (0 : Int32) < (1 : Int32) := by decide
      have h19 : (0 : Int32) < (2 : Int32) := by decide
      obtain ⟨cq20, kq20, q20a, q20b, q20c⟩ := isOf hZ rfl c17_1
      obtain ⟨_, _, ⟨T20, L20, k20, n20⟩, -, X20, ⟨Lc20, hQ20, l20, y20, z20⟩, st20⟩ := X17.virtualBack hx (y := (⟨"com/example/apportion/apportion/AppendOnlyList", "prefix", "()Lcom/example/apportion/apportion/AppendOnlyList$Prefix;"⟩ : MethodName)) (z := (⟨"com/example/apportion/apportion/AppendOnlyList", "prefix", "()Lcom/example/apportion/apportion/AppendOnlyList$Prefix;"⟩ : MethodName)) hown (mvT hZ (hw _ (List.mem_of_getElem? (i := 14) rfl))) (mvT hZ (hw _ (List.mem_of_getElem? (i := 15) rfl))) (notFace_of_selects (args := #[]) (mvT hZ (hw _ (List.mem_of_getElem? (i := 17) rfl)))) (mvT hZ (hw _ (List.mem_of_getElem? (i := 17) rfl))) (mvT hZ (hw _ (List.mem_of_getElem? (i := 16) rfl))) (by decide) (backOf (W := 0) (rm3 l Z a0 hw [] o16 t117 (0 : Int32) T17.heap n0 Z17 c17_3 c17_4) hZ (hw _ (List.mem_of_getElem? (i := 18) rfl)) (hw _ (List.mem_of_getElem? (i := 3) rfl)) (by decide) (by decide)) q20a q20c (g := (mkF m 63 #[.val (.int p1), .val (.int p2), .val (.int p3), .val (.int p4), .val (.int p5), .val (.int (0 : Int32)), .val (.int (1 : Int32)), .val (.ref o16), .unset, .unset] [(.ref o16)])) rfl (by rw [hml]; rfl) (Steps.refl _) (argsL := []) (rest := []) (lenOf pd_4 rfl) rfl (by show 2 * 0 + _ ≤ _; exact Nat.le_of_eq rfl) (hb hby at_63) (fun _ _ => ⟨rfl, rfl, (by decide : 2 + 1 ≤ _), (by decide : 3 + 2 ≤ _)⟩)
      dsimp only [Pt.U, Pt.locs, Pt.cells, Pt.slots] at X20 l20 y20 z20 st20 hQ20
      subst l20 y20 z20
      obtain ⟨r20, rfl, N20q, Kc20, fr20_r, c20_0, c20_1, c20_2⟩ := hQ20
      have N20 := Fr.app N17 N20q
      have ne20_r_1 : o16 ≠ r20 := Nat.ne_of_lt (Nat.lt_of_lt_of_le c17_1.lt fr20_r)
      have ne20_r_2 : t117 ≠ r20 := Nat.ne_of_lt (Nat.lt_of_lt_of_le c17_0.lt fr20_r)
      have ge20_r : n0 ≤ r20 := Nat.le_trans Z17 fr20_r
      have sz20_r : h0.size ≤ r20 := Nat.le_trans K17.1 fr20_r
      have u20_0 := c17_1.keep Kc20
      have u20_1 := c17_0.keep Kc20 (List.not_mem_nil)
      have u20_2 := c17_2.keep Kc20
      have u20_3 := c17_3.keep Kc20 (List.not_mem_nil)
      have u20_4 := c17_4.keep Kc20 (List.not_mem_nil)
      have OL20 := OL17.keep Kc20 (fun x hx => absurd hx List.not_mem_nil)
      have K20 := K17.trans Kc20 (fun x hx => absurd hx List.not_mem_nil)
      have Z20 : n0 ≤ T20.heap.size := Nat.le_trans Z17 Kc20.1
      have h21 : ¬ ((1 : Int32) = (0 : Int32)) := by decide
      obtain ⟨_, _, ⟨T22, L22, k22, n22⟩, -, X22, ⟨Lc22, hQ22, l22, y22, z22⟩, st22⟩ := Jvm.LawKit.callS X20 hx (y := (⟨"java/lang/Integer", "valueOf", "(I)Ljava/lang/Integer;"⟩ : MethodName)) hown (mvT hZ (hw _ (List.mem_of_getElem? (i := 63) rfl))) (mvT hZ (hw _ (List.mem_of_getElem? (i := 64) rfl))) (mvT hZ (hw _ (List.mem_of_getElem? (i := 65) rfl))) (mvT hZ (hw _ (List.mem_of_getElem? (i := 66) rfl))) (by decide) (backOf (W := 1) (rm9 l Z a0 hw [] p4 T20.heap n0 Z20 OL20 hC) hZ (hw _ (List.mem_of_getElem? (i := 66) rfl)) (hw _ (List.mem_of_getElem? (i := 65) rfl)) (by decide) (by decide)) (g := (mkF m 76 #[.val (.int p1), .val (.int p2), .val (.int p3), .val (.int p4), .val (.int p5), .val (.int (0 : Int32)), .val (.int (1 : Int32)), .val (.ref o16), .val (.ref r20), .unset] [(.int p4), (.ref o16)])) rfl (by rw [hml]; rfl) (argsL := [(.int p4)]) (rest := [(.ref o16)]) (lenOf pd_8 rfl) rfl (by show 2 * 0 + _ ≤ _; exact Nat.le_of_eq rfl) (hb hby at_76) (fun _ _ => ⟨rfl, rfl, (by decide : 3 + 1 ≤ _), (by decide : 5 + 1 ≤ _)⟩)
      dsimp only [Pt.U, Pt.locs, Pt.cells, Pt.slots] at X22 l22 y22 z22 st22 hQ22
      subst l22 y22 z22
      obtain ⟨r22, rfl, N22q, Kc22, c22_0, c22_1⟩ := hQ22
      have N22 := Fr.app N20 N22q
      have u22_0 := u20_0.keep Kc22
      have u22_1 := u20_1.keep Kc22 (List.not_mem_nil)
      have u22_2 := u20_2.keep Kc22
      have u22_3 := u20_3.keep Kc22 (List.not_mem_nil)
      have u22_4 := u20_4.keep Kc22 (List.not_mem_nil)
      have u22_5 := c20_0.keep Kc22
      have u22_6 := c20_1.keep Kc22 (List.not_mem_nil)
      have u22_7 := c20_2.keep Kc22 (List.not_mem_nil)
      have OL22 := OL20.keep Kc22 (fun x hx => absurd hx List.not_mem_nil)
      have K22 := K20.trans Kc22 (fun x hx => absurd hx List.not_mem_nil)
      have Z22 : n0 ≤ T22.heap.size := Nat.le_trans Z20 Kc22.1
      obtain ⟨cq23, kq23, q23a, q23b, q23c⟩ := isOf hZ rfl u22_0
      obtain ⟨_, _, ⟨T23, L23, k23, n23⟩, -, X23, ⟨Lc23, hQ23, l23, y23, z23⟩, st23⟩ := X22.virtualBack hx (y := (⟨"com/example/apportion/apportion/AppendOnlyList", "add", "(Ljava/lang/Object;)V"⟩ : MethodName)) (z := (⟨"com/example/apportion/apportion/AppendOnlyList", "add", "(Ljava/lang/Object;)V"⟩ : MethodName)) hown (mvT hZ (hw _ (List.mem_of_getElem? (i := 70) rfl))) (mvT hZ (hw _ (List.mem_of_getElem? (i := 71) rfl))) (notFace_of_selects (args := #[]) (mvT hZ (hw _ (List.mem_of_getElem? (i := 73) rfl)))) (mvT hZ (hw _ (List.mem_of_getElem? (i := 73) rfl))) (mvT hZ (hw _ (List.mem_of_getElem? (i := 72) rfl))) (by decide) (backOf (W := 0) (rmadd0 l Z a0 hw [] o16 r22 t117 k_t117 T22.heap n0 Z22 u22_0 ge16 u22_3 u22_4 u22_1 u22_2 ge17_t1 c17_5 c22_0) hZ (hw _ (List.mem_of_getElem? (i := 74) rfl)) (hw _ (List.mem_of_getElem? (i := 3) rfl)) (by decide) (by decide)) q23a q23c (g := (mkF m 79 #[.val (.int p1), .val (.int p2), .val (.int p3), .val (.int p4), .val (.int p5), .val (.int (0 : Int32)), .val (.int (1 : Int32)), .val (.ref o16), .val (.ref r20), .unset] [(.ref r22), (.ref o16)])) rfl (by rw [hml]; rfl) (Steps.refl _) (argsL := [(.ref r22)]) (rest := []) (lenOf pd_9 rfl) rfl (by show 2 * 0 + _ ≤ _; exact Nat.le_of_eq rfl) (hb hby at_79) (fun _ _ => ⟨rfl, rfl, (by decide : 4 + 1 ≤ _), (by decide : 6 + 4096 ≤ _)⟩)
      dsimp only [Pt.U, Pt.locs, Pt.cells, Pt.slots] at X23 l23 y23 z23 st23 hQ23
      subst l23 y23 z23
      obtain ⟨t223, k_t223, rfl, N23q, Kc23, fr23_t2, c23_0, c23_1, c23_2, c23_3, c23_4, c23_5, c23_6, c23_7⟩ := hQ23
      have N23 := Fr.app N22 N23q
      have ne23_t2_1 : o16 ≠ t223 := Nat.ne_of_lt (Nat.lt_of_lt_of_le u22_0.lt fr23_t2)
      have ne23_t2_2 : t117 ≠ t223 := Nat.ne_of_lt (Nat.lt_of_lt_of_le u22_1.lt fr23_t2)
      have ne23_t2_3 : r20 ≠ t223 := Nat.ne_of_lt (Nat.lt_of_lt_of_le u22_5.lt fr23_t2)
      have ne23_t2_4 : r22 ≠ t223 := Nat.ne_of_lt (Nat.lt_of_lt_of_le c22_0.lt fr23_t2)
      have ge23_t2 : n0 ≤ t223 := Nat.le_trans Z22 fr23_t2
      have sz23_t2 : h0.size ≤ t223 := Nat.le_trans K22.1 fr23_t2
      have u23_0 := u22_0.keep Kc23
      have u23_2 := u22_2.keep Kc23
      have u23_5 := u22_5.keep Kc23
      have u23_6 := u22_6.keep Kc23 (by simp only [List.mem_cons, List.not_mem_nil, or_false, not_or]; exact ⟨(Ne.symm ne20_r_1), (Ne.symm ne20_r_2)⟩)
      have u23_7 := u22_7.keep Kc23 (by simp only [List.mem_cons, List.not_mem_nil, or_false, not_or]; exact ⟨(Ne.symm ne20_r_1), (Ne.symm ne20_r_2)⟩)
      have u23_8 := c22_0.keep Kc23
      have u23_9 := c22_1.keep Kc23 (by simp only [List.mem_cons, List.not_mem_nil, or_false, not_or]; exact ⟨(ne_exa c22_0 u22_0 (by decide)), (ne_exa c22_0 u22_2 (by decide))⟩)
      have OL23 := OL22.keep Kc23 (fun x hx => by simp only [List.mem_cons, List.not_mem_nil, or_false] at hx; rcases hx with rfl | rfl; exact ge16; exact ge17_t1)
      have K23 := K22.trans Kc23 (fun x hx => by simp only [List.mem_cons, List.not_mem_nil, or_false] at hx; rcases hx with rfl | rfl; exact Or.inr sz16; exact Or.inr sz17_t1)
      have Z23 : n0 ≤ T23.heap.size := Nat.le_trans Z22 Kc23.1
      obtain ⟨cq24, kq24, q24a, q24b, q24c⟩ := isOf hZ rfl u23_5
      obtain ⟨_, _, ⟨T24, L24, k24, n24⟩, -, X24, ⟨Lc24, hQ24, l24, y24, z24⟩, st24⟩ := X23.virtualBack hx (y := (⟨"com/example/apportion/apportion/AppendOnlyList$Prefix", "size", "()I"⟩ : MethodName)) (z := (⟨"com/example/apportion/apportion/AppendOnlyList$Prefix", "size", "()I"⟩ : MethodName)) hown (mvT hZ (hw _ (List.mem_of_getElem? (i := 32) rfl))) (mvT hZ (hw _ (List.mem_of_getElem? (i := 33) rfl))) (notFace_of_selects (args := #[]) (mvT hZ (hw _ (List.mem_of_getElem? (i := 35) rfl)))) (mvT hZ (hw _ (List.mem_of_getElem? (i := 35) rfl))) (mvT hZ (hw _ (List.mem_of_getElem? (i := 34) rfl))) (by decide) (backOf (W := 0) (rm5 l Z a0 hw [] r20 (0 : Int32) T23.heap n0 Z23 u23_7) hZ (hw _ (List.mem_of_getElem? (i := 36) rfl)) (hw _ (List.mem_of_getElem? (i := 21) rfl)) (by decide) (by decide)) q24a q24c (g := (mkF m 84 #[.val (.int p1), .val (.int p2), .val (.int p3), .val (.int p4), .val (.int p5), .val (.int (0 : Int32)), .val (.int (1 : Int32)), .val (.ref o16), .val (.ref r20), .unset] [(.ref r20)])) rfl (by rw [hml]; rfl) (Steps.refl _) (argsL := []) (rest := []) (lenOf pd_5 rfl) rfl (by show 2 * 0 + _ ≤ _; exact Nat.le_of_eq rfl) (hb hby at_84) (fun _ _ => ⟨rfl, rfl, (by decide : 5 + 0 ≤ _), (by decide : 4102 + 0 ≤ _)⟩)
      dsimp only [Pt.U, Pt.locs, Pt.cells, Pt.slots] at X24 l24 y24 z24 st24 hQ24
      subst l24 y24 z24
      obtain ⟨hv24, N24q, e24⟩ := hQ24
      rw [show f5 r20 (0 : Int32) = (0 : Int32) from rfl] at hv24
      subst hv24
      have N24 := Fr.app N23 N24q
      have h25 : (0 : Int32) = (0 : Int32) := by decide
      obtain ⟨cq26, kq26, q26a, q26b, q26c⟩ := isOf hZ e24 u23_5
      obtain ⟨_, _, ⟨T26, L26, k26, n26⟩, -, X26, ⟨Lc26, hQ26, l26, y26, z26⟩, st26⟩ := X24.virtualBack hx (y := (⟨"com/example/apportion/apportion/AppendOnlyList$Prefix", "iterator", "()Ljava/util/Iterator;"⟩ : MethodName)) (z := (⟨"com/example/apportion/apportion/AppendOnlyList$Prefix", "iterator", "()Ljava/util/Iterator;"⟩ : MethodName)) hown (mvT hZ (hw _ (List.mem_of_getElem? (i := 37) rfl))) (mvT hZ (hw _ (List.mem_of_getElem? (i := 38) rfl))) (notFace_of_selects (args := #[]) (mvT hZ (hw _ (List.mem_of_getElem? (i := 40) rfl)))) (mvT hZ (hw _ (List.mem_of_getElem? (i := 40) rfl))) (mvT hZ (hw _ (List.mem_of_getElem? (i := 39) rfl))) (by decide) (backOf (W := 0) (rm6 l Z a0 hw [] r20 T23.heap n0 Z23) hZ (hw _ (List.mem_of_getElem? (i := 41) rfl)) (hw _ (List.mem_of_getElem? (i := 21) rfl)) (by decide) (by decide)) q26a q26c (g := (mkF m 96 #[.val (.int p1), .val (.int p2), .val (.int p3), .val (.int p4), .val (.int p5), .val (.int (0 : Int32)), .val (.int (1 : Int32)), .val (.ref o16), .val (.ref r20), .unset] [(.ref r20)])) rfl (by rw [hml]; rfl) (Steps.refl _) (argsL := []) (rest := []) (lenOf pd_6 rfl) rfl (by show 2 * 0 + _ ≤ _; exact Nat.le_of_eq rfl) (hb hby at_96) (fun _ _ => ⟨rfl, e24, (by decide : 5 + 1 ≤ _), (by decide : 4102 + 2 ≤ _)⟩)
      dsimp only [Pt.U, Pt.locs, Pt.cells, Pt.slots] at X26 l26 y26 z26 st26 hQ26
      subst l26 y26 z26
      obtain ⟨r26, rfl, N26q, Kc26, fr26_r, c26_0, c26_1, c26_2⟩ := hQ26
      have N26 := Fr.app N24 N26q
      have ne26_r_1 : o16 ≠ r26 := Nat.ne_of_lt (Nat.lt_of_lt_of_le c23_2.lt fr26_r)
      have ne26_r_2 : t117 ≠ r26 := Nat.ne_of_lt (Nat.lt_of_lt_of_le c23_3.lt fr26_r)
      have ne26_r_3 : r20 ≠ r26 := Nat.ne_of_lt (Nat.lt_of_lt_of_le u23_5.lt fr26_r)
      have ne26_r_4 : r22 ≠ r26 := Nat.ne_of_lt (Nat.lt_of_lt_of_le u23_8.lt fr26_r)
      have ne26_r_5 : t223 ≠ r26 := Nat.ne_of_lt (Nat.lt_of_lt_of_le c23_1.lt fr26_r)
      have ge26_r : n0 ≤ r26 := Nat.le_trans Z23 fr26_r
      have sz26_r : h0.size ≤ r26 := Nat.le_trans K23.1 fr26_r
      have u26_0 := c23_2.keep Kc26
      have u26_1 := c23_3.keep Kc26
      have u26_2 := u23_5.keep Kc26
      have u26_3 := u23_6.keep Kc26 (List.not_mem_nil)
      have u26_4 := u23_7.keep Kc26 (List.not_mem_nil)
      have u26_5 := u23_8.keep Kc26
      have u26_6 := u23_9.keep Kc26 (List.not_mem_nil)
      have u26_7 := c23_0.keep Kc26 (List.not_mem_nil)
      have u26_8 := c23_1.keep Kc26 (List.not_mem_nil)
      have u26_9 := c23_4.keep Kc26
      have u26_10 := c23_5.keep Kc26 (List.not_mem_nil)
      have u26_11 := c23_6.keep Kc26 (List.not_mem_nil)
      have OL26 := OL23.keep Kc26 (fun x hx => absurd hx List.not_mem_nil)
      have K26 := K23.trans Kc26 (fun x hx => absurd hx List.not_mem_nil)
      have Z26 : n0 ≤ T26.heap.size := Nat.le_trans Z23 Kc26.1
      have h27 : (0 : Int32) < (1 : Int32) := by decide
      have h28 : (0 : Int32) < (2 : Int32) := by decide
      obtain ⟨cq29, kq29, q29a, q29b, q29c⟩ := isOf hZ rfl c26_0
      obtain ⟨_, _, ⟨T29, L29, k29, n29⟩, -, X29, ⟨Lc29, hQ29, l29, y29, z29⟩, st29⟩ := X26.interfaceBack hx (xi := (⟨"java/util/Iterator", "hasNext", "()Z"⟩ : MethodName)) (y := (⟨"com/example/apportion/apportion/AppendOnlyList$Prefix$1", "hasNext", "()Z"⟩ : MethodName)) hown (mvT hZ (hw _ (List.mem_of_getElem? (i := 51) rfl))) (mvT hZ (hw _ (List.mem_of_getElem? (i := 52) rfl))) (mvT hZ (hw _ (List.mem_of_getElem? (i := 53) rfl))) (mvT hZ (hw _ (List.mem_of_getElem? (i := 54) rfl))) (mvT hZ (hw _ (List.mem_of_getElem? (i := 55) rfl))) (mvT hZ (hw _ (List.mem_of_getElem? (i := 56) rfl))) (mvT hZ (hw _ (List.mem_of_getElem? (i := 57) rfl))) (mvT hZ (hw _ (List.mem_of_getElem? (i := 58) rfl))) (by decide) (backOf (W := 0) (rm8 l Z a0 hw [] r26 (0 : Int32) r20 (0 : Int32) T26.heap n0 Z26 c26_1 c26_2 u26_4) hZ (hw _ (List.mem_of_getElem? (i := 59) rfl)) (hw _ (List.mem_of_getElem? (i := 44) rfl)) (by decide) (by decide)) q29a q29b q29c (g := (mkF m 153 #[.val (.int p1), .val (.int p2), .val (.int p3), .val (.int p4), .val (.int p5), .val (.int (0 : Int32)), .val (.int (1 : Int32)), .val (.ref o16), .val (.ref r20), .val (.ref r26)] [(.ref r26)])) rfl (by rw [hml]; rfl) (Steps.refl _) (argsL := []) (rest := []) (lenOf pd_7 rfl) rfl (by show 2 * 0 + _ ≤ _; exact Nat.le_of_eq rfl) (hb hby at_153) (fun _ _ => ⟨rfl, rfl, (by decide : 6 + 0 ≤ _), (by decide : 4104 + 0 ≤ _)⟩)
      dsimp only [Pt.U, Pt.locs, Pt.cells, Pt.slots] at X29 l29 y29 z29 st29 hQ29
      subst l29 y29 z29
      obtain ⟨hv29, N29q, e29⟩ := hQ29
      rw [show f8 r26 (0 : Int32) r20 (0 : Int32) = (0 : Int32) from if_neg (by decide)] at hv29
      subst hv29
      have N29 := Fr.app N26 N29q
      have h30 : (0 : Int32) = (0 : Int32) := by decide
      obtain ⟨fs, hr, hrun, hended, hW, hsame⟩ := X29.leave (v := some (.int (1 : Int32))) (fun h => by rw [Bd.returns] at h; cases h)
      refine ⟨_, _, ?_, hrun, hended, _, _, rfl, ?_, ⟨_, rfl⟩, hW, hsame.mono (by decide) (by decide)⟩
      · show Steps p.tables e below (s₁.setTop (mkF m 12 #[.val (.int p1), .val (.int p2), .val (.int p3), .val (.int p4), .val (.int p5), .val (.int (0 : Int32)), .unset, .unset, .unset, .unset] [(.int (p5 &&& (1 : Int32)))])) _
        refine XS.ifNo X0.here hx rfl (hb hby at_12) rfl ((if0 _ _).trans (feq h2).1) ?_
        show Steps p.tables e below (s₁.setTop (mkF m 15 #[.val (.int p1), .val (.int p2), .val (.int p3), .val (.int p4), .val (.int p5), .val (.int (0 : Int32)), .unset, .unset, .unset, .unset] [])) _
        refine XS.iconst X0.here hx rfl (hb hby at_15) ?_
        show Steps p.tables e below (s₁.setTop (mkF m 16 #[.val (.int p1), .val (.int p2), .val (.int p3), .val (.int p4), .val (.int p5), .val (.int (0 : Int32)), .unset, .unset, .unset, .unset] [(.int (1 : Int32))])) _
        refine XS.goto X0.here hx rfl (pc0 := 16) (pc' := 20) rfl (hb hby at_16) (by decide) (by decide) ?_
        show Steps p.tables e below (s₁.setTop (mkF m 20 #[.val (.int p1), .val (.int p2), .val (.int p3), .val (.int p4), .val (.int p5), .val (.int (0 : Int32)), .unset, .unset, .unset, .unset] [(.int (1 : Int32))])) _
        refine XS.istore X0.here hx rfl (hb hby at_20) rfl (l' := #[.val (.int p1), .val (.int p2), .val (.int p3), .val (.int p4), .val (.int p5), .val (.int (0 : Int32)), .val (.int (1 : Int32)), .unset, .unset, .unset]) rfl ?_
        show Steps p.tables e below (s₁.setTop (mkF m 22 #[.val (.int p1), .val (.int p2), .val (.int p3), .val (.int p4), .val (.int p5), .val (.int (0 : Int32)), .val (.int (1 : Int32)), .unset, .unset, .unset] [])) _
        refine st16 _ ?_
        show Steps p.tables e below (T16.setTop (mkF m 25 #[.val (.int p1), .val (.int p2), .val (.int p3), .val (.int p4), .val (.int p5), .val (.int (0 : Int32)), .val (.int (1 : Int32)), .unset, .unset, .unset] [(.ref o16)])) _
        refine XS.dup X16.here hx rfl (hb hby at_25) rfl rfl ?_
        show Steps p.tables e below (T16.setTop (mkF m 26 #[.val (.int p1), .val (.int p2), .val (.int p3), .val (.int p4), .val (.int p5), .val (.int (0 : Int32)), .val (.int (1 : Int32)), .unset, .unset, .unset] [(.ref o16), (.ref o16)])) _
        refine st17.trans ?_
        show Steps p.tables e below (T17.setTop (mkF m 29 #[.val (.int p1), .val (.int p2), .val (.int p3), .val (.int p4), .val (.int p5), .val (.int (0 : Int32)), .val (.int (1 : Int32)), .unset, .unset, .unset] [(.ref o16)])) _
        refine XS.astore X17.here hx rfl (hb hby at_29) rfl rfl (l' := #[.val (.int p1), .val (.int p2), .val (.int p3), .val (.int p4), .val (.int p5), .val (.int (0 : Int32)), .val (.int (1 : Int32)), .val (.ref o16), .unset, .unset]) rfl ?_
        show Steps p.tables e below (T17.setTop (mkF m 31 #[.val (.int p1), .val (.int p2), .val (.int p3), .val (.int p4), .val (.int p5), .val (.int (0 : Int32)), .val (.int (1 : Int32)), .val (.ref o16), .unset, .unset] [])) _
        refine XS.iload X17.here hx rfl (hb hby at_31) rfl ?_
        show Steps p.tables e below (T17.setTop (mkF m 33 #[.val (.int p1), .val (.int p2), .val (.int p3), .val (.int p4), .val (.int p5), .val (.int (0 : Int32)), .val (.int (1 : Int32)), .val (.ref o16), .unset, .unset] [(.int (0 : Int32))])) _
        refine XS.iconst X17.here hx rfl (hb hby at_33) ?_
        show Steps p.tables e below (T17.setTop (mkF m 34 #[.val (.int p1), .val (.int p2), .val (.int p3), .val (.int p4), .val (.int p5), .val (.int (0 : Int32)), .val (.int (1 : Int32)), .val (.ref o16), .unset, .unset] [(.int (1 : Int32)), (.int (0 : Int32))])) _
        refine XS.icmpYes X17.here hx rfl (pc0 := 34) (pc' := 46) rfl (hb hby at_34) rfl (tlt h18).1 (by decide) (by decide) ?_
        show Steps p.tables e below (T17.setTop (mkF m 46 #[.val (.int p1), .val (.int p2), .val (.int p3), .val (.int p4), .val (.int p5), .val (.int (0 : Int32)), .val (.int (1 : Int32)), .val (.ref o16), .unset, .unset] [])) _
        refine XS.iload X17.here hx rfl (hb hby at_46) rfl ?_
        show Steps p.tables e below (T17.setTop (mkF m 48 #[.val (.int p1), .val (.int p2), .val (.int p3), .val (.int p4), .val (.int p5), .val (.int (0 : Int32)), .val (.int (1 : Int32)), .val (.ref o16), .unset, .unset] [(.int (0 : Int32))])) _
        refine XS.iconst X17.here hx rfl (hb hby at_48) ?_
        show Steps p.tables e below (T17.setTop (mkF m 49 #[.val (.int p1), .val (.int p2), .val (.int p3), .val (.int p4), .val (.int p5), .val (.int (0 : Int32)), .val (.int (1 : Int32)), .val (.ref o16), .unset, .unset] [(.int (2 : Int32)), (.int (0 : Int32))])) _
        refine XS.icmpYes X17.here hx rfl (pc0 := 49) (pc' := 61) rfl (hb hby at_49) rfl (tlt h19).1 (by decide) (by decide) ?_
        show Steps p.tables e below (T17.setTop (mkF m 61 #[.val (.int p1), .val (.int p2), .val (.int p3), .val (.int p4), .val (.int p5), .val (.int (0 : Int32)), .val (.int (1 : Int32)), .val (.ref o16), .unset, .unset] [])) _
        refine XS.aload X17.here hx rfl (hb hby at_61) rfl rfl ?_
        show Steps p.tables e below (T17.setTop (mkF m 63 #[.val (.int p1), .val (.int p2), .val (.int p3), .val (.int p4), .val (.int p5), .val (.int (0 : Int32)), .val (.int (1 : Int32)), .val (.ref o16), .unset, .unset] [(.ref o16)])) _
        refine st20.trans ?_
        show Steps p.tables e below (T20.setTop (mkF m 66 #[.val (.int p1), .val (.int p2), .val (.int p3), .val (.int p4), .val (.int p5), .val (.int (0 : Int32)), .val (.int (1 : Int32)), .val (.ref o16), .unset, .unset] [(.ref r20)])) _
        refine XS.astore X20.here hx rfl (hb hby at_66) rfl rfl (l' := #[.val (.int p1), .val (.int p2), .val (.int p3), .val (.int p4), .val (.int p5), .val (.int (0 : Int32)), .val (.int (1 : Int32)), .val (.ref o16), .val (.ref r20), .unset]) rfl ?_
        show Steps p.tables e below (T20.setTop (mkF m 68 #[.val (.int p1), .val (.int p2), .val (.int p3), .val (.int p4), .val (.int p5), .val (.int (0 : Int32)), .val (.int (1 : Int32)), .val (.ref o16), .val (.ref r20), .unset] [])) _
        refine XS.iload X20.here hx rfl (hb hby at_68) rfl ?_
        show Steps p.tables e below (T20.setTop (mkF m 70 #[.val (.int p1), .val (.int p2), .val (.int p3), .val (.int p4), .val (.int p5), .val (.int (0 : Int32)), .val (.int (1 : Int32)), .val (.ref o16), .val (.ref r20), .unset] [(.int (1 : Int32))])) _
        refine XS.ifNo X20.here hx rfl (hb hby at_70) rfl ((if0 _ _).trans (feq h21).1) ?_
        show Steps p.tables e below (T20.setTop (mkF m 73 #[.val (.int p1), .val (.int p2), .val (.int p3), .val (.int p4), .val (.int p5), .val (.int (0 : Int32)), .val (.int (1 : Int32)), .val (.ref o16), .val (.ref r20), .unset] [])) _
        refine XS.aload X20.here hx rfl (hb hby at_73) rfl rfl ?_
        show Steps p.tables e below (T20.setTop (mkF m 75 #[.val (.int p1), .val (.int p2), .val (.int p3), .val (.int p4), .val (.int p5), .val (.int (0 : Int32)), .val (.int (1 : Int32)), .val (.ref o16), .val (.ref r20), .unset] [(.ref o16)])) _
        refine XS.iloadN X20.here hx rfl (hb hby at_75) rfl ?_
        show Steps p.tables e below (T20.setTop (mkF m 76 #[.val (.int p1), .val (.int p2), .val (.int p3), .val (.int p4), .val (.int p5), .val (.int (0 : Int32)), .val (.int (1 : Int32)), .val (.ref o16), .val (.ref r20), .unset] [(.int p4), (.ref o16)])) _
        refine st22 _ ?_
        show Steps p.tables e below (T22.setTop (mkF m 79 #[.val (.int p1), .val (.int p2), .val (.int p3), .val (.int p4), .val (.int p5), .val (.int (0 : Int32)), .val (.int (1 : Int32)), .val (.ref o16), .val (.ref r20), .unset] [(.ref r22), (.ref o16)])) _
        refine st23.trans ?_
        show Steps p.tables e below (T23.setTop (mkF m 82 #[.val (.int p1), .val (.int p2), .val (.int p3), .val (.int p4), .val (.int p5), .val (.int (0 : Int32)), .val (.int (1 : Int32)), .val (.ref o16), .val (.ref r20), .unset] [])) _
        refine XS.aload X23.here hx rfl (hb hby at_82) rfl rfl ?_
        show Steps p.tables e below (T23.setTop (mkF m 84 #[.val (.int p1), .val (.int p2), .val (.int p3), .val (.int p4), .val (.int p5), .val (.int (0 : Int32)), .val (.int (1 : Int32)), .val (.ref o16), .val (.ref r20), .unset] [(.ref r20)])) _
        refine st24.trans ?_
        show Steps p.tables e below (T24.setTop (mkF m 87 #[.val (.int p1), .val (.int p2), .val (.int p3), .val (.int p4), .val (.int p5), .val (.int (0 : Int32)), .val (.int (1 : Int32)), .val (.ref o16), .val (.ref r20), .unset] [(.int (0 : Int32))])) _
        refine XS.iload X24.here hx rfl (hb hby at_87) rfl ?_
        show Steps p.tables e below (T24.setTop (mkF m 89 #[.val (.int p1), .val (.int p2), .val (.int p3), .val (.int p4), .val (.int p5), .val (.int (0 : Int32)), .val (.int (1 : Int32)), .val (.ref o16), .val (.ref r20), .unset] [(.int (0 : Int32)), (.int (0 : Int32))])) _
        refine XS.icmpYes X24.here hx rfl (pc0 := 89) (pc' := 94) rfl (hb hby at_89) rfl (teq h25).1 (by decide) (by decide) ?_
        show Steps p.tables e below (T24.setTop (mkF m 94 #[.val (.int p1), .val (.int p2), .val (.int p3), .val (.int p4), .val (.int p5), .val (.int (0 : Int32)), .val (.int (1 : Int32)), .val (.ref o16), .val (.ref r20), .unset] [])) _
        refine XS.aload X24.here hx rfl (hb hby at_94) rfl rfl ?_
        show Steps p.tables e below (T24.setTop (mkF m 96 #[.val (.int p1), .val (.int p2), .val (.int p3), .val (.int p4), .val (.int p5), .val (.int (0 : Int32)), .val (.int (1 : Int32)), .val (.ref o16), .val (.ref r20), .unset] [(.ref r20)])) _
        refine st26.trans ?_
        show Steps p.tables e below (T26.setTop (mkF m 99 #[.val (.int p1), .val (.int p2), .val (.int p3), .val (.int p4), .val (.int p5), .val (.int (0 : Int32)), .val (.int (1 : Int32)), .val (.ref o16), .val (.ref r20), .unset] [(.ref r26)])) _
        refine XS.astore X26.here hx rfl (hb hby at_99) rfl rfl (l' := #[.val (.int p1), .val (.int p2), .val (.int p3), .val (.int p4), .val (.int p5), .val (.int (0 : Int32)), .val (.int (1 : Int32)), .val (.ref o16), .val (.ref r20), .val (.ref r26)]) rfl ?_
        show Steps p.tables e below (T26.setTop (mkF m 101 #[.val (.int p1), .val (.int p2), .val (.int p3), .val (.int p4), .val (.int p5), .val (.int (0 : Int32)), .val (.int (1 : Int32)), .val (.ref o16), .val (.ref r20), .val (.ref r26)] [])) _
        refine XS.iload X26.here hx rfl (hb hby at_101) rfl ?_
        show Steps p.tables e below (T26.setTop (mkF m 103 #[.val (.int p1), .val (.int p2), .val (.int p3), .val (.int p4), .val (.int p5), .val (.int (0 : Int32)), .val (.int (1 : Int32)), .val (.ref o16), .val (.ref r20), .val (.ref r26)] [(.int (0 : Int32))])) _
        refine XS.iconst X26.here hx rfl (hb hby at_103) ?_
        show Steps p.tables e below (T26.setTop (mkF m 104 #[.val (.int p1), .val (.int p2), .val (.int p3), .val (.int p4), .val (.int p5), .val (.int (0 : Int32)), .val (.int (1 : Int32)), .val (.ref o16), .val (.ref r20), .val (.ref r26)] [(.int (1 : Int32)), (.int (0 : Int32))])) _
        refine XS.icmpYes X26.here hx rfl (pc0 := 104) (pc' := 126) rfl (hb hby at_104) rfl (tlt h27).1 (by decide) (by decide) ?_
        show Steps p.tables e below (T26.setTop (mkF m 126 #[.val (.int p1), .val (.int p2), .val (.int p3), .val (.int p4), .val (.int p5), .val (.int (0 : Int32)), .val (.int (1 : Int32)), .val (.ref o16), .val (.ref r20), .val (.ref r26)] [])) _
        refine XS.iload X26.here hx rfl (hb hby at_126) rfl ?_
        show Steps p.tables e below (T26.setTop (mkF m 128 #[.val (.int p1), .val (.int p2), .val (.int p3), .val (.int p4), .val (.int p5), .val (.int (0 : Int32)), .val (.int (1 : Int32)), .val (.ref o16), .val (.ref r20), .val (.ref r26)] [(.int (0 : Int32))])) _
        refine XS.iconst X26.here hx rfl (hb hby at_128) ?_
        show Steps p.tables e below (T26.setTop (mkF m 129 #[.val (.int p1), .val (.int p2), .val (.int p3), .val (.int p4), .val (.int p5), .val (.int (0 : Int32)), .val (.int (1 : Int32)), .val (.ref o16), .val (.ref r20), .val (.ref r26)] [(.int (2 : Int32)), (.int (0 : Int32))])) _
        refine XS.icmpYes X26.here hx rfl (pc0 := 129) (pc' := 151) rfl (hb hby at_129) rfl (tlt h28).1 (by decide) (by decide) ?_
        show Steps p.tables e below (T26.setTop (mkF m 151 #[.val (.int p1), .val (.int p2), .val (.int p3), .val (.int p4), .val (.int p5), .val (.int (0 : Int32)), .val (.int (1 : Int32)), .val (.ref o16), .val (.ref r20), .val (.ref r26)] [])) _
        refine XS.aload X26.here hx rfl (hb hby at_151) rfl rfl ?_
        show Steps p.tables e below (T26.setTop (mkF m 153 #[.val (.int p1), .val (.int p2), .val (.int p3), .val (.int p4), .val (.int p5), .val (.int (0 : Int32)), .val (.int (1 : Int32)), .val (.ref o16), .val (.ref r20), .val (.ref r26)] [(.ref r26)])) _
        refine st29.trans ?_
        show Steps p.tables e below (T29.setTop (mkF m 158 #[.val (.int p1), .val (.int p2), .val (.int p3), .val (.int p4), .val (.int p5), .val (.int (0 : Int32)), .val (.int (1 : Int32)), .val (.ref o16), .val (.ref r20), .val (.ref r26)] [(.int (0 : Int32))])) _
        refine XS.ifNo X29.here hx rfl (hb hby at_158) rfl ((if0 _ _).trans (teq h30).2) ?_
        show Steps p.tables e below (T29.setTop (mkF m 161 #[.val (.int p1), .val (.int p2), .val (.int p3), .val (.int p4), .val (.int p5), .val (.int (0 : Int32)), .val (.int (1 : Int32)), .val (.ref o16), .val (.ref r20), .val (.ref r26)] [])) _
        refine XS.iconst X29.here hx rfl (hb hby at_161) ?_
        show Steps p.tables e below (T29.setTop (mkF m 162 #[.val (.int p1), .val (.int p2), .val (.int p3), .val (.int p4), .val (.int p5), .val (.int (0 : Int32)), .val (.int (1 : Int32)), .val (.ref o16), .val (.ref r20), .val (.ref r26)] [(.int (1 : Int32))])) _
        refine XS.goto X29.here hx rfl (pc0 := 162) (pc' := 166) rfl (hb hby at_162) (by decide) (by decide) ?_
        show Steps p.tables e below (T29.setTop (mkF m 166 #[.val (.int p1), .val (.int p2), .val (.int p3), .val (.int p4), .val (.int p5), .val (.int (0 : Int32)), .val (.int (1 : Int32)), .val (.ref o16), .val (.ref r20), .val (.ref r26)] [(.int (1 : Int32))])) _
        exact retN X29 hx (t := .boolean) Bd.returns (by simp) (hb hby at_166) hr
      · show Q0 Z p1 p2 p3 p4 p5 h0 n0 _ T29.heap _
        rw [e29]
        exact ⟨rfl, N29⟩
  · rw [hk1]
    refine own_step (B := s₁.setTop (mkF m 12 #[.val (.int p1), .val (.int p2), .val (.int p3), .val (.int p4), .val (.int p5), .val (.int (1 : Int32)), .unset, .unset, .unset, .unset] [(.int (p5 &&& (1 : Int32)))])) (fun t k => ?_) ?_
    · show Steps p.tables e below (s₁.setTop (mkF m 8 #[.val (.int p1), .val (.int p2), .val (.int p3), .val (.int p4), .val (.int p5), .val (.int (1 : Int32)), .unset, .unset, .unset, .unset] [])) _
      refine XS.iload X0.here hx rfl (hb hby at_8) rfl ?_
      show Steps p.tables e below (s₁.setTop (mkF m 10 #[.val (.int p1), .val (.int p2), .val (.int p3), .val (.int p4), .val (.int p5), .val (.int (1 : Int32)), .unset, .unset, .unset, .unset] [(.int p5)])) _
      refine XS.iconst X0.here hx rfl (hb hby at_10) ?_
      show Steps p.tables e below (s₁.setTop (mkF m 11 #[.val (.int p1), .val (.int p2), .val (.int p3), .val (.int p4), .val (.int p5), .val (.int (1 : Int32)), .unset, .unset, .unset, .unset] [(.int (1 : Int32)), (.int p5)])) _
      refine XS.iand X0.here hx rfl (hb hby at_11) rfl ?_
      exact k
    by_cases h31 : (p5 &&& (1 : Int32)) = (0 : Int32)
    · obtain ⟨T32, h32, X32, e32, E32, A32, D32, -, st32⟩ := newO X0 hx hZ hown (hw _ (List.mem_of_getElem? (i := 1) rfl)) (hw _ (List.mem_of_getElem? (i := 2) rfl)) (hw _ (List.mem_of_getElem? (i := 3) rfl)) e0 (g := (mkF m 22 #[.val (.int p1), .val (.int p2), .val (.int p3), .val (.int p4), .val (.int p5), .val (.int (1 : Int32)), .val (.int (0 : Int32)), .unset, .unset, .unset] [])) rfl (hb hby at_22) (by decide) (by decide)
      obtain ⟨o32, g32⟩ : ∃ z, z = h0.size := ⟨_, rfl⟩
      rw [← g32] at A32 D32 st32
      have ge32 : n0 ≤ o32 := Nat.le_trans Z0 (Nat.le_of_eq g32.symm)
      have Z32 : n0 ≤ h32.size := Nat.le_trans Z0 E32.1
      have sz32 : h0.size ≤ o32 := Nat.le_trans K0.1 (Nat.le_of_eq g32.symm)
      have K32 := K0.ext E32
      have OL32 := OLD.ext E32
      have D32_13 : Fld Z h32 o32 "com/example/apportion/apportion/AppendOnlyList" "chunks" "[[Ljava/lang/Object;" .null := D32 (Or.inl (hw _ (List.mem_of_getElem? (i := 13) rfl))) (ty := (.array (.array (.object "java/lang/Object")))) (by decide)
      have D32_23 : Fld Z h32 o32 "com/example/apportion/apportion/AppendOnlyList" "size" "I" (.int (0 : Int32)) := D32 (Or.inl (hw _ (List.mem_of_getElem? (i := 23) rfl))) (ty := .int) (by decide)
      obtain ⟨_, _, ⟨T33, L33, k33, n33⟩, -, X33, ⟨Lc33, hQ33, l33, y33, z33⟩, st33⟩ := X32.specialBack hx (y := (⟨"com/example/apportion/apportion/AppendOnlyList", "<init>", "()V"⟩ : MethodName)) rfl hown (mvT hZ (hw _ (List.mem_of_getElem? (i := 4) rfl))) (mvT hZ (hw _ (List.mem_of_getElem? (i := 5) rfl))) (mvT hZ (hw _ (List.mem_of_getElem? (i := 6) rfl))) (by decide) (backOf (W := 1) (rm1 l Z a0 hw [] o32 h32 n0 Z32 A32 ge32 D32_13 D32_23) hZ (hw _ (List.mem_of_getElem? (i := 6) rfl)) (hw _ (List.mem_of_getElem? (i := 3) rfl)) (by decide) (by decide)) (g := (mkF m 26 #[.val (.int p1), .val (.int p2), .val (.int p3), .val (.int p4), .val (.int p5), .val (.int (1 : Int32)), .val (.int (0 : Int32)), .unset, .unset, .unset] [(.ref o32), (.ref o32)])) rfl (by rw [hml]; rfl) (Steps.refl _) (a := o32) (argsL := []) (rest := [(.ref o32)]) (lenOf pd_0 rfl) rfl (by show 2 * 0 + _ ≤ _; exact Nat.le_of_eq rfl) (hb hby at_26) (fun _ _ => ⟨rfl, e32, (by decide : 1 + 1 ≤ _), (by decide : 2 + 1 ≤ _)⟩)
      dsimp only [Pt.U, Pt.locs, Pt.cells, Pt.slots] at X33 l33 y33 z33 st33 hQ33
      subst l33 y33 z33
      obtain ⟨t133, k_t133, rfl, N33q, Kc33, fr33_t1, c33_0, c33_1, c33_2, c33_3, c33_4, c33_5⟩ := hQ33
      have N33 := Fr.app N0 N33q
      have ne33_t1_1 : o32 ≠ t133 := Nat.ne_of_lt (Nat.lt_of_lt_of_le A32.lt fr33_t1)
      have ge33_t1 : n0 ≤ t133 := Nat.le_trans Z32 fr33_t1
      have sz33_t1 : h0.size ≤ t133 := Nat.le_trans K32.1 fr33_t1
      have u33_0 := A32.keep Kc33
      have OL33 := OL32.keep Kc33 (fun x hx => by cases List.mem_singleton.mp hx; exact ge32)
      have K33 := K32.trans Kc33 (fun x hx => by cases List.mem_singleton.mp hx; exact Or.inr sz32)
      have Z33 : n0 ≤ T33.heap.size := Nat.le_trans Z32 Kc33.1
      have h34 : ¬ ((1 : Int32) < (1 : Int32)) := by decide
      obtain ⟨_, _, ⟨T35, L35, k35, n35⟩, -, X35, ⟨Lc35, hQ35, l35, y35, z35⟩, st35⟩ := Jvm.LawKit.callS X33 hx (y := (⟨"java/lang/Integer", "valueOf", "(I)Ljava/lang/Integer;"⟩ : MethodName)) hown (mvT hZ (hw _ (List.mem_of_getElem? (i := 63) rfl))) (mvT hZ (hw _ (List.mem_of_getElem? (i := 64) rfl))) (mvT hZ (hw _ (List.mem_of_getElem? (i := 65) rfl))) (mvT hZ (hw _ (List.mem_of_getElem? (i := 66) rfl))) (by decide) (backOf (W := 1) (rm9 l Z a0 hw [] p2 T33.heap n0 Z33 OL33 hC) hZ (hw _ (List.mem_of_getElem? (i := 66) rfl)) (hw _ (List.mem_of_getElem? (i := 65) rfl)) (by decide) (by decide)) (g := (mkF m 40 #[.val (.int p1), .val (.int p2), .val (.int p3), .val (.int p4), .val (.int p5), .val (.int (1 : Int32)), .val (.int (0 : Int32)), .val (.ref o32), .unset, .unset] [(.int p2), (.ref o32)])) rfl (by rw [hml]; rfl) (argsL := [(.int p2)]) (rest := [(.ref o32)]) (lenOf pd_8 rfl) rfl (by show 2 * 0 + _ ≤ _; exact Nat.le_of_eq rfl) (hb hby at_40) (fun _ _ => ⟨rfl, rfl, (by decide : 2 + 1 ≤ _), (by decide : 3 + 1 ≤ _)⟩)
      dsimp only [Pt.U, Pt.locs, Pt.cells, Pt.slots] at X35 l35 y35 z35 st35 hQ35
      subst l35 y35 z35
      obtain ⟨r35, rfl, N35q, Kc35, c35_0, c35_1⟩ := hQ35
      have N35 := Fr.app N33 N35q
      have u35_0 := c33_1.keep Kc35
      have u35_1 := c33_0.keep Kc35 (List.not_mem_nil)
      have u35_2 := c33_2.keep Kc35
      have u35_3 := c33_3.keep Kc35 (List.not_mem_nil)
      have u35_4 := c33_4.keep Kc35 (List.not_mem_nil)
      have OL35 := OL33.keep Kc35 (fun x hx => absurd hx List.not_mem_nil)
      have K35 := K33.trans Kc35 (fun x hx => absurd hx List.not_mem_nil)
      have Z35 : n0 ≤ T35.heap.size := Nat.le_trans Z33 Kc35.1
      obtain ⟨cq36, kq36, q36a, q36b, q36c⟩ := isOf hZ rfl u35_0
      obtain ⟨_, _, ⟨T36, L36, k36, n36⟩, -, X36, ⟨Lc36, hQ36, l36, y36, z36⟩, st36⟩ := X35.virtualBack hx (y := (⟨"com/example/apportion/apportion/AppendOnlyList", "add", "(Ljava/lang/Object;)V"⟩ : MethodName)) (z := (⟨"com/example/apportion/apportion/AppendOnlyList", "add", "(Ljava/lang/Object;)V"⟩ : MethodName)) hown (mvT hZ (hw _ (List.mem_of_getElem? (i := 70) rfl))) (mvT hZ (hw _ (List.mem_of_getElem? (i := 71) rfl))) (notFace_of_selects (args := #[]) (mvT hZ (hw _ (List.mem_of_getElem? (i := 73) rfl)))) (mvT hZ (hw _ (List.mem_of_getElem? (i := 73) rfl))) (mvT hZ (hw _ (List.mem_of_getElem? (i := 72) rfl))) (by decide) (backOf (W := 0) (rmadd0 l Z a0 hw [] o32 r35 t133 k_t133 T35.heap n0 Z35 u35_0 ge32 u35_3 u35_4 u35_1 u35_2 ge33_t1 c33_5 c35_0) hZ (hw _ (List.mem_of_getElem? (i := 74) rfl)) (hw _ (List.mem_of_getElem? (i := 3) rfl)) (by decide) (by decide)) q36a q36c (g := (mkF m 43 #[.val (.int p1), .val (.int p2), .val (.int p3), .val (.int p4), .val (.int p5), .val (.int (1 : Int32)), .val (.int (0 : Int32)), .val (.ref o32), .unset, .unset] [(.ref r35), (.ref o32)])) rfl (by rw [hml]; rfl) (Steps.refl _) (argsL := [(.ref r35)]) (rest := []) (lenOf pd_9 rfl) rfl (by show 2 * 0 + _ ≤ _; exact Nat.le_of_eq rfl) (hb hby at_43) (fun _ _ => ⟨rfl, rfl, (by decide : 3 + 1 ≤ _), (by decide : 4 + 4096 ≤ _)⟩)
      dsimp only [Pt.U, Pt.locs, Pt.cells, Pt.slots] at X36 l36 y36 z36 st36 hQ36
      subst l36 y36 z36
      obtain ⟨t236, k_t236, rfl, N36q, Kc36, fr36_t2, c36_0, c36_1, c36_2, c36_3, c36_4, c36_5, c36_6, c36_7⟩ := hQ36
      have N36 := Fr.app N35 N36q
      have ne36_t2_1 : o32 ≠ t236 := Nat.ne_of_lt (Nat.lt_of_lt_of_le u35_0.lt fr36_t2)
      have ne36_t2_2 : t133 ≠ t236 := Nat.ne_of_lt (Nat.lt_of_lt_of_le u35_1.lt fr36_t2)
      have ne36_t2_3 : r35 ≠ t236 := Nat.ne_of_lt (Nat.lt_of_lt_of_le c35_0.lt fr36_t2)
      have ge36_t2 : n0 ≤ t236 := Nat.le_trans Z35 fr36_t2
      have sz36_t2 : h0.size ≤ t236 := Nat.le_trans K35.1 fr36_t2
      have u36_0 := u35_0.keep Kc36
      have u36_2 := u35_2.keep Kc36
      have u36_5 := c35_0.keep Kc36
      have u36_6 := c35_1.keep Kc36 (by simp only [List.mem_cons, List.not_mem_nil, or_false, not_or]; exact ⟨(ne_exa c35_0 u35_0 (by decide)), (ne_exa c35_0 u35_2 (by decide))⟩)
      have OL36 := OL35.keep Kc36 (fun x hx => by simp only [List.mem_cons, List.not_mem_nil, or_false] at hx; rcases hx with rfl | rfl; exact ge32; exact ge33_t1)
      have K36 := K35.trans Kc36 (fun x hx => by simp only [List.mem_cons, List.not_mem_nil, or_false] at hx; rcases hx with rfl | rfl; exact Or.inr sz32; exact Or.inr sz33_t1)
      have Z36 : n0 ≤ T36.heap.size := Nat.le_trans Z35 Kc36.1
      have h37 : (1 : Int32) < (2 : Int32) := by decide
      obtain ⟨cq38, kq38, q38a, q38b, q38c⟩ := isOf hZ rfl c36_2
      obtain ⟨_, _, ⟨T38, L38, k38, n38⟩, -, X38, ⟨Lc38, hQ38, l38, y38, z38⟩, st38⟩ := X36.virtualBack hx (y := (⟨"com/example/apportion/apportion/AppendOnlyList", "prefix", "()Lcom/example/apportion/apportion/AppendOnlyList$Prefix;"⟩ : MethodName)) (z := (⟨"com/example/apportion/apportion/AppendOnlyList", "prefix", "()Lcom/example/apportion/apportion/AppendOnlyList$Prefix;"⟩ : MethodName)) hown (mvT hZ (hw _ (List.mem_of_getElem? (i := 14) rfl))) (mvT hZ (hw _ (List.mem_of_getElem? (i := 15) rfl))) (notFace_of_selects (args := #[]) (mvT hZ (hw _ (List.mem_of_getElem? (i := 17) rfl)))) (mvT hZ (hw _ (List.mem_of_getElem? (i := 17) rfl))) (mvT hZ (hw _ (List.mem_of_getElem? (i := 16) rfl))) (by decide) (backOf (W := 0) (rm3 l Z a0 hw [] o32 t133 (1 : Int32) T36.heap n0 Z36 c36_5 c36_6) hZ (hw _ (List.mem_of_getElem? (i := 18) rfl)) (hw _ (List.mem_of_getElem? (i := 3) rfl)) (by decide) (by decide)) q38a q38c (g := (mkF m 63 #[.val (.int p1), .val (.int p2), .val (.int p3), .val (.int p4), .val (.int p5), .val (.int (1 : Int32)), .val (.int (0 : Int32)), .val (.ref o32), .unset, .unset] [(.ref o32)])) rfl (by rw [hml]; rfl) (Steps.refl _) (argsL := []) (rest := []) (lenOf pd_4 rfl) rfl (by show 2 * 0 + _ ≤ _; exact Nat.le_of_eq rfl) (hb hby at_63) (fun _ _ => ⟨rfl, rfl, (by decide : 4 + 1 ≤ _), (by decide : 4100 + 2 ≤ _)⟩)
      dsimp only [Pt.U, Pt.locs, Pt.cells, Pt.slots] at X38 l38 y38 z38 st38 hQ38
      subst l38 y38 z38
      obtain ⟨r38, rfl, N38q, Kc38, fr38_r, c38_0, c38_1, c38_2⟩ := hQ38
      have N38 := Fr.app N36 N38q
      have ne38_r_1 : o32 ≠ r38 := Nat.ne_of_lt (Nat.lt_of_lt_of_le c36_2.lt fr38_r)
      have ne38_r_2 : t133 ≠ r38 := Nat.ne_of_lt (Nat.lt_of_lt_of_le c36_3.lt fr38_r)
      have ne38_r_3 : r35 ≠ r38 := Nat.ne_of_lt (Nat.lt_of_lt_of_le u36_5.lt fr38_r)
      have ne38_r_4 : t236 ≠ r38 := Nat.ne_of_lt (Nat.lt_of_lt_of_le c36_1.lt fr38_r)
      have ge38_r : n0 ≤ r38 := Nat.le_trans Z36 fr38_r
      have sz38_r : h0.size ≤ r38 := Nat.le_trans K36.1 fr38_r
      have u38_0 := c36_2.keep Kc38
      have u38_1 := c36_3.keep Kc38
      have u38_2 := u36_5.keep Kc38
      have u38_3 := u36_6.keep Kc38 (List.not_mem_nil)
      have u38_4 := c36_0.keep Kc38 (List.not_mem_nil)
      have u38_5 := c36_1.keep Kc38 (List.not_mem_nil)
      have u38_6 := c36_4.keep Kc38
      have u38_7 := c36_5.keep Kc38 (List.not_mem_nil)
      have u38_8 := c36_6.keep Kc38 (List.not_mem_nil)
      have OL38 := OL36.keep Kc38 (fun x hx => absurd hx List.not_mem_nil)
      have K38 := K36.trans Kc38 (fun x hx => absurd hx List.not_mem_nil)
      have Z38 : n0 ≤ T38.heap.size := Nat.le_trans Z36 Kc38.1
      have h39 : (0 : Int32) = (0 : Int32) := by decide
      obtain ⟨cq40, kq40, q40a, q40b, q40c⟩ := isOf hZ rfl c38_0
      obtain ⟨_, _, ⟨T40, L40, k40, n40⟩, -, X40, ⟨Lc40, hQ40, l40, y40, z40⟩, st40⟩ := X38.virtualBack hx (y := (⟨"com/example/apportion/apportion/AppendOnlyList$Prefix", "size", "()I"⟩ : MethodName)) (z := (⟨"com/example/apportion/apportion/AppendOnlyList$Prefix", "size", "()I"⟩ : MethodName)) hown (mvT hZ (hw _ (List.mem_of_getElem? (i := 32) rfl))) (mvT hZ (hw _ (List.mem_of_getElem? (i := 33) rfl))) (notFace_of_selects (args := #[]) (mvT hZ (hw _ (List.mem_of_getElem? (i := 35) rfl)))) (mvT hZ (hw _ (List.mem_of_getElem? (i := 35) rfl))) (mvT hZ (hw _ (List.mem_of_getElem? (i := 34) rfl))) (by decide) (backOf (W := 0) (rm5 l Z a0 hw [] r38 (1 : Int32) T38.heap n0 Z38 c38_2) hZ (hw _ (List.mem_of_getElem? (i := 36) rfl)) (hw _ (List.mem_of_getElem? (i := 21) rfl)) (by decide) (by decide)) q40a q40c (g := (mkF m 84 #[.val (.int p1), .val (.int p2), .val (.int p3), .val (.int p4), .val (.int p5), .val (.int (1 : Int32)), .val (.int (0 : Int32)), .val (.ref o32), .val (.ref r38), .unset] [(.ref r38)])) rfl (by rw [hml]; rfl) (Steps.refl _) (argsL := []) (rest := []) (lenOf pd_5 rfl) rfl (by show 2 * 0 + _ ≤ _; exact Nat.le_of_eq rfl) (hb hby at_84) (fun _ _ => ⟨rfl, rfl, (by decide : 5 + 0 ≤ _), (by decide : 4102 + 0 ≤ _)⟩)
      dsimp only [Pt.U, Pt.locs, Pt.cells, Pt.slots] at X40 l40 y40 z40 st40 hQ40
      subst l40 y40 z40
      obtain ⟨hv40, N40q, e40⟩ := hQ40
      rw [show f5 r38 (1 : Int32) = (1 : Int32) from rfl] at hv40
      subst hv40
      have N40 := Fr.app N38 N40q
      have h41 : (1 : Int32) = (1 : Int32) := by decide
      obtain ⟨cq42, kq42, q42a, q42b, q42c⟩ := isOf hZ e40 c38_0
      obtain ⟨_, _, ⟨T42, L42, k42, n42⟩, -, X42, ⟨Lc42, hQ42, l42, y42, z42⟩, st42⟩ := X40.virtualBack hx (y := (⟨"com/example/apportion/apportion/AppendOnlyList$Prefix", "iterator", "()Ljava/util/Iterator;"⟩ : MethodName)) (z := (⟨"com/example/apportion/apportion/AppendOnlyList$Prefix", "iterator", "()Ljava/util/Iterator;"⟩ : MethodName)) hown (mvT hZ (hw _ (List.mem_of_getElem? (i := 37) rfl))) (mvT hZ (hw _ (List.mem_of_getElem? (i := 38) rfl))) (notFace_of_selects (args := #[]) (mvT hZ (hw _ (List.mem_of_getElem? (i := 40) rfl)))) (mvT hZ (hw _ (List.mem_of_getElem? (i := 40) rfl))) (mvT hZ (hw _ (List.mem_of_getElem? (i := 39) rfl))) (by decide) (backOf (W := 0) (rm6 l Z a0 hw [] r38 T38.heap n0 Z38) hZ (hw _ (List.mem_of_getElem? (i := 41) rfl)) (hw _ (List.mem_of_getElem? (i := 21) rfl)) (by decide) (by decide)) q42a q42c (g := (mkF m 96 #[.val (.int p1), .val (.int p2), .val (.int p3), .val (.int p4), .val (.int p5), .val (.int (1 : Int32)), .val (.int (0 : Int32)), .val (.ref o32), .val (.ref r38), .unset] [(.ref r38)])) rfl (by rw [hml]; rfl) (Steps.refl _) (argsL := []) (rest := []) (lenOf pd_6 rfl) rfl (by show 2 * 0 + _ ≤ _; exact Nat.le_of_eq rfl) (hb hby at_96) (fun _ _ => ⟨rfl, e40, (by decide : 5 + 1 ≤ _), (by decide : 4102 + 2 ≤ _)⟩)
      dsimp only [Pt.U, Pt.locs, Pt.cells, Pt.slots] at X42 l42 y42 z42 st42 hQ42
      subst l42 y42 z42
      obtain ⟨r42, rfl, N42q, Kc42, fr42_r, c42_0, c42_1, c42_2⟩ := hQ42
      have N42 := Fr.app N40 N42q
      have ne42_r_1 : o32 ≠ r42 := Nat.ne_of_lt (Nat.lt_of_lt_of_le u38_0.lt fr42_r)
      have ne42_r_2 : t133 ≠ r42 := Nat.ne_of_lt (Nat.lt_of_lt_of_le u38_1.lt fr42_r)
      have ne42_r_3 : r35 ≠ r42 := Nat.ne_of_lt (Nat.lt_of_lt_of_le u38_2.lt fr42_r)
      have ne42_r_4 : t236 ≠ r42 := Nat.ne_of_lt (Nat.lt_of_lt_of_le u38_5.lt fr42_r)
      have ne42_r_5 : r38 ≠ r42 := Nat.ne_of_lt (Nat.lt_of_lt_of_le c38_0.lt fr42_r)
      have ge42_r : n0 ≤ r42 := Nat.le_trans Z38 fr42_r
      have sz42_r : h0.size ≤ r42 := Nat.le_trans K38.1 fr42_r
      have u42_0 := u38_0.keep Kc42
      have u42_1 := u38_1.keep Kc42
      have u42_2 := u38_2.keep Kc42
      have u42_3 := u38_3.keep Kc42 (List.not_mem_nil)
      have u42_4 := u38_4.keep Kc42 (List.not_mem_nil)
      have u42_5 := u38_5.keep Kc42 (List.not_mem_nil)
      have u42_6 := u38_6.keep Kc42
      have u42_7 := u38_7.keep Kc42 (List.not_mem_nil)
      have u42_8 := u38_8.keep Kc42 (List.not_mem_nil)
      have u42_9 := c38_0.keep Kc42
      have u42_10 := c38_1.keep Kc42 (List.not_mem_nil)
      have u42_11 := c38_2.keep Kc42 (List.not_mem_nil)
      have OL42 := OL38.keep Kc42 (fun x hx => absurd hx List.not_mem_nil)
      have K42 := K38.trans Kc42 (fun x hx => absurd hx List.not_mem_nil)
      have Z42 : n0 ≤ T42.heap.size := Nat.le_trans Z38 Kc42.1
      have h43 : ¬ ((1 : Int32) < (1 : Int32)) := by decide
      obtain ⟨cq44, kq44, q44a, q44b, q44c⟩ := isOf hZ rfl c42_0
      obtain ⟨_, _, ⟨T44, L44, k44, n44⟩, -, X44, ⟨Lc44, hQ44, l44, y44, z44⟩, st44⟩ := X42.interfaceBack hx (xi := (⟨"java/util/Iterator", "next", "()Ljava/lang/Object;"⟩ : MethodName)) (y := (⟨"com/example/apportion/apportion/AppendOnlyList$Prefix$1", "next", "()Ljava/lang/Object;"⟩ : MethodName)) hown (mvT hZ (hw _ (List.mem_of_getElem? (i := 94) rfl))) (mvT hZ (hw _ (List.mem_of_getElem? (i := 95) rfl))) (mvT hZ (hw _ (List.mem_of_getElem? (i := 96) rfl))) (mvT hZ (hw _ (List.mem_of_getElem? (i := 97) rfl))) (mvT hZ (hw _ (List.mem_of_getElem? (i := 98) rfl))) (mvT hZ (hw _ (List.mem_of_getElem? (i := 99) rfl))) (mvT hZ (hw _ (List.mem_of_getElem? (i := 100) rfl))) (mvT hZ (hw _ (List.mem_of_getElem? (i := 58) rfl))) (by decide) (backOf (W := 0) (rmnx01 l Z a0 hw [] r42 r38 t133 k_t133 t236 k_t236 r35 .null .null T42.heap n0 Z42 c42_0 ge42_r c42_1 c42_2 u42_9 u42_11 u42_10 u42_4 u42_1 u42_5 u42_6) hZ (hw _ (List.mem_of_getElem? (i := 101) rfl)) (hw _ (List.mem_of_getElem? (i := 44) rfl)) (by decide) (by decide)) q44a q44b q44c (g := (mkF m 109 #[.val (.int p1), .val (.int p2), .val (.int p3), .val (.int p4), .val (.int p5), .val (.int (1 : Int32)), .val (.int (0 : Int32)), .val (.ref o32), .val (.ref r38), .val (.ref r42)] [(.ref r42)])) rfl (by rw [hml]; rfl) (Steps.refl _) (argsL := []) (rest := []) (lenOf pd_10 rfl) rfl (by show 2 * 0 + _ ≤ _; exact Nat.le_of_eq rfl) (hb hby at_109) (fun _ _ => ⟨rfl, rfl, (by decide : 6 + 0 ≤ _), (by decide : 4104 + 0 ≤ _)⟩)
      dsimp only [Pt.U, Pt.locs, Pt.cells, Pt.slots] at X44 l44 y44 z44 st44 hQ44
      subst l44 y44 z44
      obtain ⟨rfl, N44q, Kc44, c44_0, c44_1, c44_2⟩ := hQ44
      have N44 := Fr.app N42 N44q
      have u44_0 := u42_0.keep Kc44
      have u44_1 := u42_1.keep Kc44
      have u44_2 := u42_2.keep Kc44
      have u44_3 := u42_3.keep Kc44 (by simp only [List.mem_cons, List.not_mem_nil, or_false, not_or]; exact ne42_r_3)
      have u44_4 := u42_4.keep Kc44 (by simp only [List.mem_cons, List.not_mem_nil, or_false, not_or]; exact ne42_r_2)
      have u44_5 := u42_5.keep Kc44 (by simp only [List.mem_cons, List.not_mem_nil, or_false, not_or]; exact ne42_r_4)
      have u44_6 := u42_6.keep Kc44
      have u44_7 := u42_7.keep Kc44 (by simp only [List.mem_cons, List.not_mem_nil, or_false, not_or]; exact ne42_r_1)
      have u44_8 := u42_8.keep Kc44 (by simp only [List.mem_cons, List.not_mem_nil, or_false, not_or]; exact ne42_r_1)
      have u44_9 := u42_9.keep Kc44
      have u44_10 := u42_10.keep Kc44 (by simp only [List.mem_cons, List.not_mem_nil, or_false, not_or]; exact ne42_r_5)
      have u44_11 := u42_11.keep Kc44 (by simp only [List.mem_cons, List.not_mem_nil, or_false, not_or]; exact ne42_r_5)
      have u44_12 := c42_0.keep Kc44
      have OL44 := OL42.keep Kc44 (fun x hx => by cases List.mem_singleton.mp hx; exact ge42_r)
      have K44 := K42.trans Kc44 (fun x hx => by cases List.mem_singleton.mp hx; exact Or.inr sz42_r)
      have Z44 : n0 ≤ T44.heap.size := Nat.le_trans Z42 Kc44.1
      obtain ⟨T45, X45, e45, st45⟩ := castY X44 hx hZ hown (hw _ (List.mem_of_getElem? (i := 103) rfl)) rfl (Ins.self u44_2) (g := (mkF m 114 #[.val (.int p1), .val (.int p2), .val (.int p3), .val (.int p4), .val (.int p5), .val (.int (1 : Int32)), .val (.int (0 : Int32)), .val (.ref o32), .val (.ref r38), .val (.ref r42)] [(.ref r35)])) rfl rfl (hb hby at_114)
      obtain ⟨cq46, kq46, q46a, q46b, q46c⟩ := isOf hZ e45 u44_2
      obtain ⟨_, _, ⟨T46, L46, k46, n46⟩, -, X46, ⟨Lc46, hQ46, l46, y46, z46⟩, st46⟩ := X45.virtualBack hx (y := (⟨"java/lang/Integer", "intValue", "()I"⟩ : MethodName)) (z := (⟨"java/lang/Integer", "intValue", "()I"⟩ : MethodName)) hown (mvT hZ (hw _ (List.mem_of_getElem? (i := 104) rfl))) (mvT hZ (hw _ (List.mem_of_getElem? (i := 105) rfl))) (notFace_of_selects (args := #[]) (mvT hZ (hw _ (List.mem_of_getElem? (i := 107) rfl)))) (mvT hZ (hw _ (List.mem_of_getElem? (i := 107) rfl))) (mvT hZ (hw _ (List.mem_of_getElem? (i := 106) rfl))) (by decide) (backOf (W := 0) (rm14 l Z a0 hw [] r35 p2 T44.heap n0 Z44 u44_3) hZ (hw _ (List.mem_of_getElem? (i := 108) rfl)) (hw _ (List.mem_of_getElem? (i := 65) rfl)) (by decide) (by decide)) q46a q46c (g := (mkF m 117 #[.val (.int p1), .val (.int p2), .val (.int p3), .val (.int p4), .val (.int p5), .val (.int (1 : Int32)), .val (.int (0 : Int32)), .val (.ref o32), .val (.ref r38), .val (.ref r42)] [(.ref r35)])) rfl (by rw [hml]; rfl) (Steps.refl _) (argsL := []) (rest := []) (lenOf pd_5 rfl) rfl (by show 2 * 0 + _ ≤ _; exact Nat.le_of_eq rfl) (hb hby at_117) (fun _ _ => ⟨rfl, e45, (by decide : 6 + 0 ≤ _), (by decide : 4104 + 0 ≤ _)⟩)
      dsimp only [Pt.U, Pt.locs, Pt.cells, Pt.slots] at X46 l46 y46 z46 st46 hQ46
      subst l46 y46 z46
      obtain ⟨hv46, N46q, e46⟩ := hQ46
      rw [show f14 r35 p2 = p2 from rfl] at hv46
      subst hv46
      have N46 := Fr.app N44 N46q
      have h47 : p2 = p2 := rfl
      have h48 : (1 : Int32) < (2 : Int32) := by decide
      obtain ⟨cq49, kq49, q49a, q49b, q49c⟩ := isOf hZ e46 c44_0
      obtain ⟨_, _, ⟨T49, L49, k49, n49⟩, -, X49, ⟨Lc49, hQ49, l49, y49, z49⟩, st49⟩ := X46.interfaceBack hx (xi := (⟨"java/util/Iterator", "hasNext", "()Z"⟩ : MethodName)) (y := (⟨"com/example/apportion/apportion/AppendOnlyList$Prefix$1", "hasNext", "()Z"⟩ : MethodName)) hown (mvT hZ (hw _ (List.mem_of_getElem? (i := 51) rfl))) (mvT hZ (hw _ (List.mem_of_getElem? (i := 52) rfl))) (mvT hZ (hw _ (List.mem_of_getElem? (i := 53) rfl))) (mvT hZ (hw _ (List.mem_of_getElem? (i := 54) rfl))) (mvT hZ (hw _ (List.mem_of_getElem? (i := 55) rfl))) (mvT hZ (hw _ (List.mem_of_getElem? (i := 56) rfl))) (mvT hZ (hw _ (List.mem_of_getElem? (i := 57) rfl))) (mvT hZ (hw _ (List.mem_of_getElem? (i := 58) rfl))) (by decide) (backOf (W := 0) (rm8 l Z a0 hw [] r42 (1 : Int32) r38 (1 : Int32) T44.heap n0 Z44 c44_1 c44_2 u44_11) hZ (hw _ (List.mem_of_getElem? (i := 59) rfl)) (hw _ (List.mem_of_getElem? (i := 44) rfl)) (by decide) (by decide)) q49a q49b q49c (g := (mkF m 153 #[.val (.int p1), .val (.int p2), .val (.int p3), .val (.int p4), .val (.int p5), .val (.int (1 : Int32)), .val (.int (0 : Int32)), .val (.ref o32), .val (.ref r38), .val (.ref r42)] [(.ref r42)])) rfl (by rw [hml]; rfl) (Steps.refl _) (argsL := []) (rest := []) (lenOf pd_7 rfl) rfl (by show 2 * 0 + _ ≤ _; exact Nat.le_of_eq rfl) (hb hby at_153) (fun _ _ => ⟨rfl, e46, (by decide : 6 + 0 ≤ _), (by decide : 4104 + 0 ≤ _)⟩)
      dsimp only [Pt.U, Pt.locs, Pt.cells, Pt.slots] at X49 l49 y49 z49 st49 hQ49
      subst l49 y49 z49
      obtain ⟨hv49, N49q, e49⟩ := hQ49
      rw [show f8 r42 (1 : Int32) r38 (1 : Int32) = (0 : Int32) from if_neg (by decide)] at hv49
      subst hv49
      have N49 := Fr.app N46 N49q
      have h50 : (0 : Int32) = (0 : Int32) := by decide
      obtain ⟨fs, hr, hrun, hended, hW, hsame⟩ := X49.leave (v := some (.int (1 : Int32))) (fun h => by rw [Bd.returns] at h; cases h)
      refine ⟨_, _, ?_, hrun, hended, _, _, rfl, ?_, ⟨_, rfl⟩, hW, hsame.mono (by decide) (by decide)⟩
      · show Steps p.tables e below (s₁.setTop (mkF m 12 #[.val (.int p1), .val (.int p2), .val (.int p3), .val (.int p4), .val (.int p5), .val (.int (1 : Int32)), .unset, .unset, .unset, .unset] [(.int (p5 &&& (1 : Int32)))])) _
        refine XS.ifYes X0.here hx rfl (pc0 := 12) (pc' := 19) rfl (hb hby at_12) rfl ((if0 _ _).trans (teq h31).1) (by decide) (by decide) ?_
        show Steps p.tables e below (s₁.setTop (mkF m 19 #[.val (.int p1), .val (.int p2), .val (.int p3), .val (.int p4), .val (.int p5), .val (.int (1 : Int32)), .unset, .unset, .unset, .unset] [])) _
        refine XS.iconst X0.here hx rfl (hb hby at_19) ?_
        show Steps p.tables e below (s₁.setTop (mkF m 20 #[.val (.int p1), .val (.int p2), .val (.int p3), .val (.int p4), .val (.int p5), .val (.int (1 : Int32)), .unset, .unset, .unset, .unset] [(.int (0 : Int32))])) _
        refine XS.istore X0.here hx rfl (hb hby at_20) rfl (l' := #[.val (.int p1), .val (.int p2), .val (.int p3), .val (.int p4), .val (.int p5), .val (.int (1 : Int32)), .val (.int (0 : Int32)), .unset, .unset, .unset]) rfl ?_
        show Steps p.tables e below (s₁.setTop (mkF m 22 #[.val (.int p1), .val (.int p2), .val (.int p3), .val (.int p4), .val (.int p5), .val (.int (1 : Int32)), .val (.int (0 : Int32)), .unset, .unset, .unset] [])) _
        refine st32 _ ?_
        show Steps p.tables e below (T32.setTop (mkF m 25 #[.val (.int p1), .val (.int p2), .val (.int p3), .val (.int p4), .val (.int p5), .val (.int (1 : Int32)), .val (.int (0 : Int32)), .unset, .unset, .unset] [(.ref o32)])) _
        refine XS.dup X32.here hx rfl (hb hby at_25) rfl rfl ?_
        show Steps p.tables e below (T32.setTop (mkF m 26 #[.val (.int p1), .val (.int p2), .val (.int p3), .val (.int p4), .val (.int p5), .val (.int (1 : Int32)), .val (.int (0 : Int32)), .unset, .unset, .unset] [(.ref o32), (.ref o32)])) _
        refine st33.trans ?_
        show Steps p.tables e below (T33.setTop (mkF m 29 #[.val (.int p1), .val (.int p2), .val (.int p3), .val (.int p4), .val (.int p5), .val (.int (1 : Int32)), .val (.int (0 : Int32)), .unset, .unset, .unset] [(.ref o32)])) _
        refine XS.astore X33.here hx rfl (hb hby at_29) rfl rfl (l' := #[.val (.int p1), .val (.int p2), .val (.int p3), .val (.int p4), .val (.int p5), .val (.int (1 : Int32)), .val (.int (0 : Int32)), .val (.ref o32), .unset, .unset]) rfl ?_
        show Steps p.tables e below (T33.setTop (mkF m 31 #[.val (.int p1), .val (.int p2), .val (.int p3), .val (.int p4), .val (.int p5), .val (.int (1 : Int32)), .val (.int (0 : Int32)), .val (.ref o32), .unset, .unset] [])) _
        refine XS.iload X33.here hx rfl (hb hby at_31) rfl ?_
        show Steps p.tables e below (T33.setTop (mkF m 33 #[.val (.int p1), .val (.int p2), .val (.int p3), .val (.int p4), .val (.int p5), .val (.int (1 : Int32)), .val (.int (0 : Int32)), .val (.ref o32), .unset, .unset] [(.int (1 : Int32))])) _
        refine XS.iconst X33.here hx rfl (hb hby at_33) ?_
        show Steps p.tables e below (T33.setTop (mkF m 34 #[.val (.int p1), .val (.int p2), .val (.int p3), .val (.int p4), .val (.int p5), .val (.int (1 : Int32)), .val (.int (0 : Int32)), .val (.ref o32), .unset, .unset] [(.int (1 : Int32)), (.int (1 : Int32))])) _
        refine XS.icmpNo X33.here hx rfl (hb hby at_34) rfl (flt h34).1 ?_
        show Steps p.tables e below (T33.setTop (mkF m 37 #[.val (.int p1), .val (.int p2), .val (.int p3), .val (.int p4), .val (.int p5), .val (.int (1 : Int32)), .val (.int (0 : Int32)), .val (.ref o32), .unset, .unset] [])) _
        refine XS.aload X33.here hx rfl (hb hby at_37) rfl rfl ?_
        show Steps p.tables e below (T33.setTop (mkF m 39 #[.val (.int p1), .val (.int p2), .val (.int p3), .val (.int p4), .val (.int p5), .val (.int (1 : Int32)), .val (.int (0 : Int32)), .val (.ref o32), .unset, .unset] [(.ref o32)])) _
        refine XS.iloadN X33.here hx rfl (hb hby at_39) rfl ?_
        show Steps p.tables e below (T33.setTop (mkF m 40 #[.val (.int p1), .val (.int p2), .val (.int p3), .val (.int p4), .val (.int p5), .val (.int (1 : Int32)), .val (.int (0 : Int32)), .val (.ref o32), .unset, .unset] [(.int p2), (.ref o32)])) _
        refine st35 _ ?_
        show Steps p.tables e below (T35.setTop (mkF m 43 #[.val (.int p1), .val (.int p2), .val (.int p3), .val (.int p4), .val (.int p5), .val (.int (1 : Int32)), .val (.int (0 : Int32)), .val (.ref o32), .unset, .unset] [(.ref r35), (.ref o32)])) _
        refine st36.trans ?_
        show Steps p.tables e below (T36.setTop (mkF m 46 #[.val (.int p1), .val (.int p2), .val (.int p3), .val (.int p4), .val (.int p5), .val (.int (1 : Int32)), .val (.int (0 : Int32)), .val (.ref o32), .unset, .unset] [])) _
        refine XS.iload X36.here hx rfl (hb hby at_46) rfl ?_
        show Steps p.tables e below (T36.setTop (mkF m 48 #[.val (.int p1), .val (.int p2), .val (.int p3), .val (.int p4), .val (.int p5), .val (.int (1 : Int32)), .val (.int (0 : Int32)), .val (.ref o32), .unset, .unset] [(.int (1 : Int32))])) _
        refine XS.iconst X36.here hx rfl (hb hby at_48) ?_
        show Steps p.tables e below (T36.setTop (mkF m 49 #[.val (.int p1), .val (.int p2), .val (.int p3), .val (.int p4), .val (.int p5), .val (.int (1 : Int32)), .val (.int (0 : Int32)), .val (.ref o32), .unset, .unset] [(.int (2 : Int32)), (.int (1 : Int32))])) _
        refine XS.icmpYes X36.here hx rfl (pc0 := 49) (pc' := 61) rfl (hb hby at_49) rfl (tlt h37).1 (by decide) (by decide) ?_
        show Steps p.tables e below (T36.setTop (mkF m 61 #[.val (.int p1), .val (.int p2), .val (.int p3), .val (.int p4), .val (.int p5), .val (.int (1 : Int32)), .val (.int (0 : Int32)), .val (.ref o32), .unset, .unset] [])) _
        refine XS.aload X36.here hx rfl (hb hby at_61) rfl rfl ?_
        show Steps p.tables e below (T36.setTop (mkF m 63 #[.val (.int p1), .val (.int p2), .val (.int p3), .val (.int p4), .val (.int p5), .val (.int (1 : Int32)), .val (.int (0 : Int32)), .val (.ref o32), .unset, .unset] [(.ref o32)])) _
        refine st38.trans ?_
        show Steps p.tables e below (T38.setTop (mkF m 66 #[.val (.int p1), .val (.int p2), .val (.int p3), .val (.int p4), .val (.int p5), .val (.int (1 : Int32)), .val (.int (0 : Int32)), .val (.ref o32), .unset, .unset] [(.ref r38)])) _
        refine XS.astore X38.here hx rfl (hb hby at_66) rfl rfl (l' := #[.val (.int p1), .val (.int p2), .val (.int p3), .val (.int p4), .val (.int p5), .val (.int (1 : Int32)), .val (.int (0 : Int32)), .val (.ref o32), .val (.ref r38), .unset]) rfl ?_
        show Steps p.tables e below (T38.setTop (mkF m 68 #[.val (.int p1), .val (.int p2), .val (.int p3), .val (.int p4), .val (.int p5), .val (.int (1 : Int32)), .val (.int (0 : Int32)), .val (.ref o32), .val (.ref r38), .unset] [])) _
        refine XS.iload X38.here hx rfl (hb hby at_68) rfl ?_
        show Steps p.tables e below (T38.setTop (mkF m 70 #[.val (.int p1), .val (.int p2), .val (.int p3), .val (.int p4), .val (.int p5), .val (.int (1 : Int32)), .val (.int (0 : Int32)), .val (.ref o32), .val (.ref r38), .unset] [(.int (0 : Int32))])) _
        refine XS.ifYes X38.here hx rfl (pc0 := 70) (pc' := 82) rfl (hb hby at_70) rfl ((if0 _ _).trans (teq h39).1) (by decide) (by decide) ?_
        show Steps p.tables e below (T38.setTop (mkF m 82 #[.val (.int p1), .val (.int p2), .val (.int p3), .val (.int p4), .val (.int p5), .val (.int (1 : Int32)), .val (.int (0 : Int32)), .val (.ref o32), .val (.ref r38), .unset] [])) _
        refine XS.aload X38.here hx rfl (hb hby at_82) rfl rfl ?_
        show Steps p.tables e below (T38.setTop (mkF m 84 #[.val (.int p1), .val (.int p2), .val (.int p3), .val (.int p4), .val (.int p5), .val (.int (1 : Int32)), .val (.int (0 : Int32)), .val (.ref o32), .val (.ref r38), .unset] [(.ref r38)])) _
        refine st40.trans ?_
        show Steps p.tables e below (T40.setTop (mkF m 87 #[.val (.int p1), .val (.int p2), .val (.int p3), .val (.int p4), .val (.int p5), .val (.int (1 : Int32)), .val (.int (0 : Int32)), .val (.ref o32), .val (.ref r38), .unset] [(.int (1 : Int32))])) _
        refine XS.iload X40.here hx rfl (hb hby at_87) rfl ?_
        show Steps p.tables e below (T40.setTop (mkF m 89 #[.val (.int p1), .val (.int p2), .val (.int p3), .val (.int p4), .val (.int p5), .val (.int (1 : Int32)), .val (.int (0 : Int32)), .val (.ref o32), .val (.ref r38), .unset] [(.int (1 : Int32)), (.int (1 : Int32))])) _
        refine XS.icmpYes X40.here hx rfl (pc0 := 89) (pc' := 94) rfl (hb hby at_89) rfl (teq h41).1 (by decide) (by decide) ?_
        show Steps p.tables e below (T40.setTop (mkF m 94 #[.val (.int p1), .val (.int p2), .val (.int p3), .val (.int p4), .val (.int p5), .val (.int (1 : Int32)), .val (.int (0 : Int32)), .val (.ref o32), .val (.ref r38), .unset] [])) _
        refine XS.aload X40.here hx rfl (hb hby at_94) rfl rfl ?_
        show Steps p.tables e below (T40.setTop (mkF m 96 #[.val (.int p1), .val (.int p2), .val (.int p3), .val (.int p4), .val (.int p5), .val (.int (1 : Int32)), .val (.int (0 : Int32)), .val (.ref o32), .val (.ref r38), .unset] [(.ref r38)])) _
        refine st42.trans ?_
        show Steps p.tables e below (T42.setTop (mkF m 99 #[.val (.int p1), .val (.int p2), .val (.int p3), .val (.int p4), .val (.int p5), .val (.int (1 : Int32)), .val (.int (0 : Int32)), .val (.ref o32), .val (.ref r38), .unset] [(.ref r42)])) _
        refine XS.astore X42.here hx rfl (hb hby at_99) rfl rfl (l' := #[.val (.int p1), .val (.int p2), .val (.int p3), .val (.int p4), .val (.int p5), .val (.int (1 : Int32)), .val (.int (0 : Int32)), .val (.ref o32), .val (.ref r38), .val (.ref r42)]) rfl ?_
        show Steps p.tables e below (T42.setTop (mkF m 101 #[.val (.int p1), .val (.int p2), .val (.int p3), .val (.int p4), .val (.int p5), .val (.int (1 : Int32)), .val (.int (0 : Int32)), .val (.ref o32), .val (.ref r38), .val (.ref r42)] [])) _
        refine XS.iload X42.here hx rfl (hb hby at_101) rfl ?_
        show Steps p.tables e below (T42.setTop (mkF m 103 #[.val (.int p1), .val (.int p2), .val (.int p3), .val (.int p4), .val (.int p5), .val (.int (1 : Int32)), .val (.int (0 : Int32)), .val (.ref o32), .val (.ref r38), .val (.ref r42)] [(.int (1 : Int32))])) _
        refine XS.iconst X42.here hx rfl (hb hby at_103) ?_
        show Steps p.tables e below (T42.setTop (mkF m 104 #[.val (.int p1), .val (.int p2), .val (.int p3), .val (.int p4), .val (.int p5), .val (.int (1 : Int32)), .val (.int (0 : Int32)), .val (.ref o32), .val (.ref r38), .val (.ref r42)] [(.int (1 : Int32)), (.int (1 : Int32))])) _
        refine XS.icmpNo X42.here hx rfl (hb hby at_104) rfl (flt h43).1 ?_
        show Steps p.tables e below (T42.setTop (mkF m 107 #[.val (.int p1), .val (.int p2), .val (.int p3), .val (.int p4), .val (.int p5), .val (.int (1 : Int32)), .val (.int (0 : Int32)), .val (.ref o32), .val (.ref r38), .val (.ref r42)] [])) _
        refine XS.aload X42.here hx rfl (hb hby at_107) rfl rfl ?_
        show Steps p.tables e below (T42.setTop (mkF m 109 #[.val (.int p1), .val (.int p2), .val (.int p3), .val (.int p4), .val (.int p5), .val (.int (1 : Int32)), .val (.int (0 : Int32)), .val (.ref o32), .val (.ref r38), .val (.ref r42)] [(.ref r42)])) _
        refine st44.trans ?_
        show Steps p.tables e below (T44.setTop (mkF m 114 #[.val (.int p1), .val (.int p2), .val (.int p3), .val (.int p4), .val (.int p5), .val (.int (1 : Int32)), .val (.int (0 : Int32)), .val (.ref o32), .val (.ref r38), .val (.ref r42)] [(.ref r35)])) _
        refine st45 _ ?_
        show Steps p.tables e below (T45.setTop (mkF m 117 #[.val (.int p1), .val (.int p2), .val (.int p3), .val (.int p4), .val (.int p5), .val (.int (1 : Int32)), .val (.int (0 : Int32)), .val (.ref o32), .val (.ref r38), .val (.ref r42)] [(.ref r35)])) _
        refine st46.trans ?_
        show Steps p.tables e below (T46.setTop (mkF m 120 #[.val (.int p1), .val (.int p2), .val (.int p3), .val (.int p4), .val (.int p5), .val (.int (1 : Int32)), .val (.int (0 : Int32)), .val (.ref o32), .val (.ref r38), .val (.ref r42)] [(.int p2)])) _
        refine XS.iloadN X46.here hx rfl (hb hby at_120) rfl ?_
        show Steps p.tables e below (T46.setTop (mkF m 121 #[.val (.int p1), .val (.int p2), .val (.int p3), .val (.int p4), .val (.int p5), .val (.int (1 : Int32)), .val (.int (0 : Int32)), .val (.ref o32), .val (.ref r38), .val (.ref r42)] [(.int p2), (.int p2)])) _
        refine XS.icmpYes X46.here hx rfl (pc0 := 121) (pc' := 126) rfl (hb hby at_121) rfl (teq h47).1 (by decide) (by decide) ?_
        show Steps p.tables e below (T46.setTop (mkF m 126 #[.val (.int p1), .val (.int p2), .val (.int p3), .val (.int p4), .val (.int p5), .val (.int (1 : Int32)), .val (.int (0 : Int32)), .val (.ref o32), .val (.ref r38), .val (.ref r42)] [])) _
        refine XS.iload X46.here hx rfl (hb hby at_126) rfl ?_
        show Steps p.tables e below (T46.setTop (mkF m 128 #[.val (.int p1), .val (.int p2), .val (.int p3), .val (.int p4), .val (.int p5), .val (.int (1 : Int32)), .val (.int (0 : Int32)), .val (.ref o32), .val (.ref r38), .val (.ref r42)] [(.int (1 : Int32))])) _
        refine XS.iconst X46.here hx rfl (hb hby at_128) ?_
        show Steps p.tables e below (T46.setTop (mkF m 129 #[.val (.int p1), .val (.int p2), .val (.int p3), .val (.int p4), .val (.int p5), .val (.int (1 : Int32)), .val (.int (0 : Int32)), .val (.ref o32), .val (.ref r38), .val (.ref r42)] [(.int (2 : Int32)), (.int (1 : Int32))])) _
        refine XS.icmpYes X46.here hx rfl (pc0 := 129) (pc' := 151) rfl (hb hby at_129) rfl (tlt h48).1 (by decide) (by decide) ?_
        show Steps p.tables e below (T46.setTop (mkF m 151 #[.val (.int p1), .val (.int p2), .val (.int p3), .val (.int p4), .val (.int p5), .val (.int (1 : Int32)), .val (.int (0 : Int32)), .val (.ref o32), .val (.ref r38), .val (.ref r42)] [])) _
        refine XS.aload X46.here hx rfl (hb hby at_151) rfl rfl ?_
        show Steps p.tables e below (T46.setTop (mkF m 153 #[.val (.int p1), .val (.int p2), .val (.int p3), .val (.int p4), .val (.int p5), .val (.int (1 : Int32)), .val (.int (0 : Int32)), .val (.ref o32), .val (.ref r38), .val (.ref r42)] [(.ref r42)])) _
        refine st49.trans ?_
        show Steps p.tables e below (T49.setTop (mkF m 158 #[.val (.int p1), .val (.int p2), .val (.int p3), .val (.int p4), .val (.int p5), .val (.int (1 : Int32)), .val (.int (0 : Int32)), .val (.ref o32), .val (.ref r38), .val (.ref r42)] [(.int (0 : Int32))])) _
        refine XS.ifNo X49.here hx rfl (hb hby at_158) rfl ((if0 _ _).trans (teq h50).2) ?_
        show Steps p.tables e below (T49.setTop (mkF m 161 #[.val (.int p1), .val (.int p2), .val (.int p3), .val (.int p4), .val (.int p5), .val (.int (1 : Int32)), .val (.int (0 : Int32)), .val (.ref o32), .val (.ref r38), .val (.ref r42)] [])) _
        refine XS.iconst X49.here hx rfl (hb hby at_161) ?_
        show Steps p.tables e below (T49.setTop (mkF m 162 #[.val (.int p1), .val (.int p2), .val (.int p3), .val (.int p4), .val (.int p5), .val (.int (1 : Int32)), .val (.int (0 : Int32)), .val (.ref o32), .val (.ref r38), .val (.ref r42)] [(.int (1 : Int32))])) _
        refine XS.goto X49.here hx rfl (pc0 := 162) (pc' := 166) rfl (hb hby at_162) (by decide) (by decide) ?_
        show Steps p.tables e below (T49.setTop (mkF m 166 #[.val (.int p1), .val (.int p2), .val (.int p3), .val (.int p4), .val (.int p5), .val (.int (1 : Int32)), .val (.int (0 : Int32)), .val (.ref o32), .val (.ref r38), .val (.ref r42)] [(.int (1 : Int32))])) _
        exact retN X49 hx (t := .boolean) Bd.returns (by simp) (hb hby at_166) hr
      · show Q0 Z p1 p2 p3 p4 p5 h0 n0 _ T49.heap _
        rw [e49]
        exact ⟨rfl, N49⟩
    · obtain ⟨T51, h51, X51, e51, E51, A51, D51, -, st51⟩ := newO X0 hx hZ hown (hw _ (List.mem_of_getElem? (i := 1) rfl)) (hw _ (List.mem_of_getElem? (i := 2) rfl)) (hw _ (List.mem_of_getElem? (i := 3) rfl)) e0 (g := (mkF m 22 #[.val (.int p1), .val (.int p2), .val (.int p3), .val (.int p4), .val (.int p5), .val (.int (1 : Int32)), .val (.int (1 : Int32)), .unset, .unset, .unset] [])) rfl (hb hby at_22) (by decide) (by decide)
      obtain ⟨o51, g51⟩ : ∃ z, z = h0.size := ⟨_, rfl⟩
      rw [← g51] at A51 D51 st51
      have ge51 : n0 ≤ o51 := Nat.le_trans Z0 (Nat.le_of_eq g51.symm)
      have Z51 : n0 ≤ h51.size := Nat.le_trans Z0 E51.1
      have sz51 : h0.size ≤ o51 := Nat.le_trans K0.1 (Nat.le_of_eq g51.symm)
      have K51 := K0.ext E51
      have OL51 := OLD.ext E51
      have D51_13 : Fld Z h51 o51 "com/example/apportion/apportion/AppendOnlyList" "chunks" "[[Ljava/lang/Object;" .null := D51 (Or.inl (hw _ (List.mem_of_getElem? (i := 13) rfl))) (ty := (.array (.array (.object "java/lang/Object")))) (by decide)
      have D51_23 : Fld Z h51 o51 "com/example/apportion/apportion/AppendOnlyList" "size" "I" (.int (0 : Int32)) := D51 (Or.inl (hw _ (List.mem_of_getElem? (i := 23) rfl))) (ty := .int) (by decide)
      obtain ⟨_, _, ⟨T52, L52, k52, n52⟩, -, X52, ⟨Lc52, hQ52, l52, y52, z52⟩, st52⟩ := X51.specialBack hx (y := (⟨"com/example/apportion/apportion/AppendOnlyList", "<init>", "()V"⟩ : MethodName)) rfl hown (mvT hZ (hw _ (List.mem_of_getElem? (i := 4) rfl))) (mvT hZ (hw _ (List.mem_of_getElem? (i := 5) rfl))) (mvT hZ (hw _ (List.mem_of_getElem? (i := 6) rfl))) (by decide) (backOf (W := 1) (rm1 l Z a0 hw [] o51 h51 n0 Z51 A51 ge51 D51_13 D51_23) hZ (hw _ (List.mem_of_getElem? (i := 6) rfl)) (hw _ (List.mem_of_getElem? (i := 3) rfl)) (by decide) (by decide)) (g := (mkF m 26 #[.val (.int p1), .val (.int p2), .val (.int p3), .val (.int p4), .val (.int p5), .val (.int (1 : Int32)), .val (.int (1 : Int32)), .unset, .unset, .unset] [(.ref o51), (.ref o51)])) rfl (by rw [hml]; rfl) (Steps.refl _) (a := o51) (argsL := []) (rest := [(.ref o51)]) (lenOf pd_0 rfl) rfl (by show 2 * 0 + _ ≤ _; exact Nat.le_of_eq rfl) (hb hby at_26) (fun _ _ => ⟨rfl, e51, (by decide : 1 + 1 ≤ _), (by decide : 2 + 1 ≤ _)⟩)
      dsimp only [Pt.U, Pt.locs, Pt.cells, Pt.slots] at X52 l52 y52 z52 st52 hQ52
      subst l52 y52 z52
      obtain ⟨t152, k_t152, rfl, N52q, Kc52, fr52_t1, c52_0, c52_1, c52_2, c52_3, c52_4, c52_5⟩ := hQ52
      have N52 := Fr.app N0 N52q
      have ne52_t1_1 : o51 ≠ t152 := Nat.ne_of_lt (Nat.lt_of_lt_of_le A51.lt fr52_t1)
      have ge52_t1 : n0 ≤ t152 := Nat.le_trans Z51 fr52_t1
      have sz52_t1 : h0.size ≤ t152 := Nat.le_trans K51.1 fr52_t1
      have u52_0 := A51.keep Kc52
      have OL52 := OL51.keep Kc52 (fun x hx => by cases List.mem_singleton.mp hx; exact ge51)
      have K52 := K51.trans Kc52 (fun x hx => by cases List.mem_singleton.mp hx; exact Or.inr sz51)
      have Z52 : n0 ≤ T52.heap.size := Nat.le_trans Z51 Kc52.1
      have h53 : ¬ ((1 : Int32) < (1 : Int32)) := by decide
      obtain ⟨_, _, ⟨T54, L54, k54, n54⟩, -, X54, ⟨Lc54, hQ54, l54, y54, z54⟩, st54⟩ := Jvm.LawKit.callS X52 hx (y := (⟨"java/lang/Integer", "valueOf", "(I)Ljava/lang/Integer;"⟩ : MethodName)) hown (mvT hZ (hw _ (List.mem_of_getElem? (i := 63) rfl))) (mvT hZ (hw _ (List.mem_of_getElem? (i := 64) rfl))) (mvT hZ (hw _ (List.mem_of_getElem? (i := 65) rfl))) (mvT hZ (hw _ (List.mem_of_getElem? (i := 66) rfl))) (by decide) (backOf (W := 1) (rm9 l Z a0 hw [] p2 T52.heap n0 Z52 OL52 hC) hZ (hw _ (List.mem_of_getElem? (i := 66) rfl)) (hw _ (List.mem_of_getElem? (i := 65) rfl)) (by decide) (by decide)) (g := (mkF m 40 #[.val (.int p1), .val (.int p2), .val (.int p3), .val (.int p4), .val (.int p5), .val (.int (1 : Int32)), .val (.int (1 : Int32)), .val (.ref o51), .unset, .unset] [(.int p2), (.ref o51)])) rfl (by rw [hml]; rfl) (argsL := [(.int p2)]) (rest := [(.ref o51)]) (lenOf pd_8 rfl) rfl (by show 2 * 0 + _ ≤ _; exact Nat.le_of_eq rfl) (hb hby at_40) (fun _ _ => ⟨rfl, rfl, (by decide : 2 + 1 ≤ _), (by decide : 3 + 1 ≤ _)⟩)
      dsimp only [Pt.U, Pt.locs, Pt.cells, Pt.slots] at X54 l54 y54 z54 st54 hQ54
      subst l54 y54 z54
      obtain ⟨r54, rfl, N54q, Kc54, c54_0, c54_1⟩ := hQ54
      have N54 := Fr.app N52 N54q
      have u54_0 := c52_1.keep Kc54
      have u54_1 := c52_0.keep Kc54 (List.not_mem_nil)
      have u54_2 := c52_2.keep Kc54
      have u54_3 := c52_3.keep Kc54 (List.not_mem_nil)
      have u54_4 := c52_4.keep Kc54 (List.not_mem_nil)
      have OL54 := OL52.keep Kc54 (fun x hx => absurd hx List.not_mem_nil)
      have K54 := K52.trans Kc54 (fun x hx => absurd hx List.not_mem_nil)
      have Z54 : n0 ≤ T54.heap.size := Nat.le_trans Z52 Kc54.1
      obtain ⟨cq55, kq55, q55a, q55b, q55c⟩ := isOf hZ rfl u54_0
      obtain ⟨_, _, ⟨T55, L55, k55, n55⟩, -, X55, ⟨Lc55, hQ55, l55, y55, z55⟩, st55⟩ := X54.virtualBack hx (y := (⟨"com/example/apportion/apportion/AppendOnlyList", "add", "(Ljava/lang/Object;)V"⟩ : MethodName)) (z := (⟨"com/example/apportion/apportion/AppendOnlyList", "add", "(Ljava/lang/Object;)V"⟩ : MethodName)) hown (mvT hZ (hw _ (List.mem_of_getElem? (i := 70) rfl))) (mvT hZ (hw _ (List.mem_of_getElem? (i := 71) rfl))) (notFace_of_selects (args := #[]) (mvT hZ (hw _ (List.mem_of_getElem? (i := 73) rfl)))) (mvT hZ (hw _ (List.mem_of_getElem? (i := 73) rfl))) (mvT hZ (hw _ (List.mem_of_getElem? (i := 72) rfl))) (by decide) (backOf (W := 0) (rmadd0 l Z a0 hw [] o51 r54 t152 k_t152 T54.heap n0 Z54 u54_0 ge51 u54_3 u54_4 u54_1 u54_2 ge52_t1 c52_5 c54_0) hZ (hw _ (List.mem_of_getElem? (i := 74) rfl)) (hw _ (List.mem_of_getElem? (i := 3) rfl)) (by decide) (by decide)) q55a q55c (g := (mkF m 43 #[.val (.int p1), .val (.int p2), .val (.int p3), .val (.int p4), .val (.int p5), .val (.int (1 : Int32)), .val (.int (1 : Int32)), .val (.ref o51), .unset, .unset] [(.ref r54), (.ref o51)])) rfl (by rw [hml]; rfl) (Steps.refl _) (argsL := [(.ref r54)]) (rest := []) (lenOf pd_9 rfl) rfl (by show 2 * 0 + _ ≤ _; exact Nat.le_of_eq rfl) (hb hby at_43) (fun _ _ => ⟨rfl, rfl, (by decide : 3 + 1 ≤ _), (by decide : 4 + 4096 ≤ _)⟩)
      dsimp only [Pt.U, Pt.locs, Pt.cells, Pt.slots] at X55 l55 y55 z55 st55 hQ55
      subst l55 y55 z55
      obtain ⟨t255, k_t255, rfl, N55q, Kc55, fr55_t2, c55_0, c55_1, c55_2, c55_3, c55_4, c55_5, c55_6, c55_7⟩ := hQ55
      have N55 := Fr.app N54 N55q
      have ne55_t2_1 : o51 ≠ t255 := Nat.ne_of_lt (Nat.lt_of_lt_of_le u54_0.lt fr55_t2)
      have ne55_t2_2 : t152 ≠ t255 := Nat.ne_of_lt (Nat.lt_of_lt_of_le u54_1.lt fr55_t2)
      have ne55_t2_3 : r54 ≠ t255 := Nat.ne_of_lt (Nat.lt_of_lt_of_le c54_0.lt fr55_t2)
      have ge55_t2 : n0 ≤ t255 := Nat.le_trans Z54 fr55_t2
      have sz55_t2 : h0.size ≤ t255 := Nat.le_trans K54.1 fr55_t2
      have u55_0 := u54_0.keep Kc55
      have u55_2 := u54_2.keep Kc55
      have u55_5 := c54_0.keep Kc55
      have u55_6 := c54_1.keep Kc55 (by simp only [List.mem_cons, List.not_mem_nil, or_false, not_or]; exact ⟨(ne_exa c54_0 u54_0 (by decide)), (ne_exa c54_0 u54_2 (by decide))⟩)
      have OL55 := OL54.keep Kc55 (fun x hx => by simp only [List.mem_cons, List.not_mem_nil, or_false] at hx; rcases hx with rfl | rfl; exact ge51; exact ge52_t1)
      have K55 := K54.trans Kc55 (fun x hx => by simp only [List.mem_cons, List.not_mem_nil, or_false] at hx; rcases hx with rfl | rfl; exact Or.inr sz51; exact Or.inr sz52_t1)
      have Z55 : n0 ≤ T55.heap.size := Nat.le_trans Z54 Kc55.1
      have h56 : (1 : Int32) < (2 : Int32) := by decide
      obtain ⟨cq57, kq57, q57a, q57b, q57c⟩ := isOf hZ rfl c55_2
      obtain ⟨_, _, ⟨T57, L57, k57, n57⟩, -, X57, ⟨Lc57, hQ57, l57, y57, z57⟩, st57⟩ := X55.virtualBack hx (y := (⟨"com/example/apportion/apportion/AppendOnlyList", "prefix", "()Lcom/example/apportion/apportion/AppendOnlyList$Prefix;"⟩ : MethodName)) (z := (⟨"com/example/apportion/apportion/AppendOnlyList", "prefix", "()Lcom/example/apportion/apportion/AppendOnlyList$Prefix;"⟩ : MethodName)) hown (mvT hZ (hw _ (List.mem_of_getElem? (i := 14) rfl))) (mvT hZ (hw _ (List.mem_of_getElem? (i := 15) rfl))) (notFace_of_selects (args := #[]) (mvT hZ (hw _ (List.mem_of_getElem? (i := 17) rfl)))) (mvT hZ (hw _ (List.mem_of_getElem? (i := 17) rfl))) (mvT hZ (hw _ (List.mem_of_getElem? (i := 16) rfl))) (by decide) (backOf (W := 0) (rm3 l Z a0 hw [] o51 t152 (1 : Int32) T55.heap n0 Z55 c55_5 c55_6) hZ (hw _ (List.mem_of_getElem? (i := 18) rfl)) (hw _ (List.mem_of_getElem? (i := 3) rfl)) (by decide) (by decide)) q57a q57c (g := (mkF m 63 #[.val (.int p1), .val (.int p2), .val (.int p3), .val (.int p4), .val (.int p5), .val (.int (1 : Int32)), .val (.int (1 : Int32)), .val (.ref o51), .unset, .unset] [(.ref o51)])) rfl (by rw [hml]; rfl) (Steps.refl _) (argsL := []) (rest := []) (lenOf pd_4 rfl) rfl (by show 2 * 0 + _ ≤ _; exact Nat.le_of_eq rfl) (hb hby at_63) (fun _ _ => ⟨rfl, rfl, (by decide : 4 + 1 ≤ _), (by decide : 4100 + 2 ≤ _)⟩)
      dsimp only [Pt.U, Pt.locs, Pt.cells, Pt.slots] at X57 l57 y57 z57 st57 hQ57
      subst l57 y57 z57
      obtain ⟨r57, rfl, N57q, Kc57, fr57_r, c57_0, c57_1, c57_2⟩ := hQ57
      have N57 := Fr.app N55 N57q
      have ne57_r_1 : o51 ≠ r57 := Nat.ne_of_lt (Nat.lt_of_lt_of_le c55_2.lt fr57_r)
      have ne57_r_2 : t152 ≠ r57 := Nat.ne_of_lt (Nat.lt_of_lt_of_le c55_3.lt fr57_r)
      have ne57_r_3 : r54 ≠ r57 := Nat.ne_of_lt (Nat.lt_of_lt_of_le u55_5.lt fr57_r)
      have ne57_r_4 : t255 ≠ r57 := Nat.ne_of_lt (Nat.lt_of_lt_of_le c55_1.lt fr57_r)
      have ge57_r : n0 ≤ r57 := Nat.le_trans Z55 fr57_r
      have sz57_r : h0.size ≤ r57 := Nat.le_trans K55.1 fr57_r
      have u57_0 := c55_2.keep Kc57
      have u57_1 := c55_3.keep Kc57
      have u57_2 := u55_5.keep Kc57
      have u57_3 := u55_6.keep Kc57 (List.not_mem_nil)
      have u57_4 := c55_0.keep Kc57 (List.not_mem_nil)
      have u57_5 := c55_1.keep Kc57 (List.not_mem_nil)
      have u57_6 := c55_4.keep Kc57
      have u57_7 := c55_5.keep Kc57 (List.not_mem_nil)
      have u57_8 := c55_6.keep Kc57 (List.not_mem_nil)
      have OL57 := OL55.keep Kc57 (fun x hx => absurd hx List.not_mem_nil)
      have K57 := K55.trans Kc57 (fun x hx => absurd hx List.not_mem_nil)
      have Z57 : n0 ≤ T57.heap.size := Nat.le_trans Z55 Kc57.1
      have h58 : ¬ ((1 : Int32) = (0 : Int32)) := by decide
      obtain ⟨_, _, ⟨T59, L59, k59, n59⟩, -, X59, ⟨Lc59, hQ59, l59, y59, z59⟩, st59⟩ := Jvm.LawKit.callS X57 hx (y := (⟨"java/lang/Integer", "valueOf", "(I)Ljava/lang/Integer;"⟩ : MethodName)) hown (mvT hZ (hw _ (List.mem_of_getElem? (i := 63) rfl))) (mvT hZ (hw _ (List.mem_of_getElem? (i := 64) rfl))) (mvT hZ (hw _ (List.mem_of_getElem? (i := 65) rfl))) (mvT hZ (hw _ (List.mem_of_getElem? (i := 66) rfl))) (by decide) (backOf (W := 1) (rm9 l Z a0 hw [] p4 T57.heap n0 Z57 OL57 hC) hZ (hw _ (List.mem_of_getElem? (i := 66) rfl)) (hw _ (List.mem_of_getElem? (i := 65) rfl)) (by decide) (by decide)) (g := (mkF m 76 #[.val (.int p1), .val (.int p2), .val (.int p3), .val (.int p4), .val (.int p5), .val (.int (1 : Int32)), .val (.int (1 : Int32)), .val (.ref o51), .val (.ref r57), .unset] [(.int p4), (.ref o51)])) rfl (by rw [hml]; rfl) (argsL := [(.int p4)]) (rest := [(.ref o51)]) (lenOf pd_8 rfl) rfl (by show 2 * 0 + _ ≤ _; exact Nat.le_of_eq rfl) (hb hby at_76) (fun _ _ => ⟨rfl, rfl, (by decide : 5 + 1 ≤ _), (by decide : 4102 + 1 ≤ _)⟩)
      dsimp only [Pt.U, Pt.locs, Pt.cells, Pt.slots] at X59 l59 y59 z59 st59 hQ59
      subst l59 y59 z59
      obtain ⟨r59, rfl, N59q, Kc59, c59_0, c59_1⟩ := hQ59
      have N59 := Fr.app N57 N59q
      have u59_0 := u57_0.keep Kc59
      have u59_1 := u57_1.keep Kc59
      have u59_2 := u57_2.keep Kc59
      have u59_3 := u57_3.keep Kc59 (List.not_mem_nil)
      have u59_4 := u57_4.keep Kc59 (List.not_mem_nil)
      have u59_5 := u57_5.keep Kc59 (List.not_mem_nil)
      have u59_6 := u57_6.keep Kc59
      have u59_7 := u57_7.keep Kc59 (List.not_mem_nil)
      have u59_8 := u57_8.keep Kc59 (List.not_mem_nil)
      have u59_9 := c57_0.keep Kc59
      have u59_10 := c57_1.keep Kc59 (List.not_mem_nil)
      have u59_11 := c57_2.keep Kc59 (List.not_mem_nil)
      have OL59 := OL57.keep Kc59 (fun x hx => absurd hx List.not_mem_nil)
      have K59 := K57.trans Kc59 (fun x hx => absurd hx List.not_mem_nil)
      have Z59 : n0 ≤ T59.heap.size := Nat.le_trans Z57 Kc59.1
      obtain ⟨cq60, kq60, q60a, q60b, q60c⟩ := isOf hZ rfl u59_0
      obtain ⟨_, _, ⟨T60, L60, k60, n60⟩, -, X60, ⟨Lc60, hQ60, l60, y60, z60⟩, st60⟩ := X59.virtualBack hx (y := (⟨"com/example/apportion/apportion/AppendOnlyList", "add", "(Ljava/lang/Object;)V"⟩ : MethodName)) (z := (⟨"com/example/apportion/apportion/AppendOnlyList", "add", "(Ljava/lang/Object;)V"⟩ : MethodName)) hown (mvT hZ (hw _ (List.mem_of_getElem? (i := 70) rfl))) (mvT hZ (hw _ (List.mem_of_getElem? (i := 71) rfl))) (notFace_of_selects (args := #[]) (mvT hZ (hw _ (List.mem_of_getElem? (i := 73) rfl)))) (mvT hZ (hw _ (List.mem_of_getElem? (i := 73) rfl))) (mvT hZ (hw _ (List.mem_of_getElem? (i := 72) rfl))) (by decide) (backOf (W := 0) (rmadd1 l Z a0 hw [] o51 r59 t152 k_t152 t255 k_t255 (.ref r54) T59.heap n0 Z59 u59_0 ge51 u59_7 u59_8 u59_4 u59_1 ge52_t1 c52_5 c59_0 u59_5 u59_6 ge55_t2 c55_7) hZ (hw _ (List.mem_of_getElem? (i := 74) rfl)) (hw _ (List.mem_of_getElem? (i := 3) rfl)) (by decide) (by decide)) q60a q60c (g := (mkF m 79 #[.val (.int p1), .val (.int p2), .val (.int p3), .val (.int p4), .val (.int p5), .val (.int (1 : Int32)), .val (.int (1 : Int32)), .val (.ref o51), .val (.ref r57), .unset] [(.ref r59), (.ref o51)])) rfl (by rw [hml]; rfl) (Steps.refl _) (argsL := [(.ref r59)]) (rest := []) (lenOf pd_9 rfl) rfl (by show 2 * 0 + _ ≤ _; exact Nat.le_of_eq rfl) (hb hby at_79) (fun _ _ => ⟨rfl, rfl, (by decide : 6 + 0 ≤ _), (by decide : 4103 + 0 ≤ _)⟩)
      dsimp only [Pt.U, Pt.locs, Pt.cells, Pt.slots] at X60 l60 y60 z60 st60 hQ60
      subst l60 y60 z60
      obtain ⟨rfl, N60q, Kc60, c60_0, c60_1, c60_2, c60_3, c60_4⟩ := hQ60
      have N60 := Fr.app N59 N60q
      have u60_0 := u59_0.keep Kc60
      have u60_1 := u59_1.keep Kc60
      have u60_2 := u59_2.keep Kc60
      have u60_3 := u59_3.keep Kc60 (by simp only [List.mem_cons, List.not_mem_nil, or_false, not_or]; exact ⟨(ne_exa u59_2 u59_0 (by decide)), ne55_t2_3⟩)
      have u60_4 := u59_4.keep Kc60 (by simp only [List.mem_cons, List.not_mem_nil, or_false, not_or]; exact ⟨(Ne.symm ne52_t1_1), ne55_t2_2⟩)
      have u60_6 := u59_6.keep Kc60
      have u60_9 := u59_9.keep Kc60
      have u60_10 := u59_10.keep Kc60 (by simp only [List.mem_cons, List.not_mem_nil, or_false, not_or]; exact ⟨(Ne.symm ne57_r_1), (Ne.symm ne57_r_4)⟩)
      have u60_11 := u59_11.keep Kc60 (by simp only [List.mem_cons, List.not_mem_nil, or_false, not_or]; exact ⟨(Ne.symm ne57_r_1), (Ne.symm ne57_r_4)⟩)
      have u60_12 := c59_0.keep Kc60
      have u60_13 := c59_1.keep Kc60 (by simp only [List.mem_cons, List.not_mem_nil, or_false, not_or]; exact ⟨(ne_exa c59_0 u59_0 (by decide)), (ne_exa c59_0 u59_6 (by decide))⟩)
      have OL60 := OL59.keep Kc60 (fun x hx => by simp only [List.mem_cons, List.not_mem_nil, or_false] at hx; rcases hx with rfl | rfl; exact ge51; exact ge55_t2)
      have K60 := K59.trans Kc60 (fun x hx => by simp only [List.mem_cons, List.not_mem_nil, or_false] at hx; rcases hx with rfl | rfl; exact Or.inr sz51; exact Or.inr sz55_t2)
      have Z60 : n0 ≤ T60.heap.size := Nat.le_trans Z59 Kc60.1
      obtain ⟨cq61, kq61, q61a, q61b, q61c⟩ := isOf hZ rfl u60_9
      obtain ⟨_, _, ⟨T61, L61, k61, n61⟩, -, X61, ⟨Lc61, hQ61, l61, y61, z61⟩, st61⟩ := X60.virtualBack hx (y := (⟨"com/example/apportion/apportion/AppendOnlyList$Prefix", "size", "()I"⟩ : MethodName)) (z := (⟨"com/example/apportion/apportion/AppendOnlyList$Prefix", "size", "()I"⟩ : MethodName)) hown (mvT hZ (hw _ (List.mem_of_getElem? (i := 32) rfl))) (mvT hZ (hw _ (List.mem_of_getElem? (i := 33) rfl))) (notFace_of_selects (args := #[]) (mvT hZ (hw _ (List.mem_of_getElem? (i := 35) rfl)))) (mvT hZ (hw _ (List.mem_of_getElem? (i := 35) rfl))) (mvT hZ (hw _ (List.mem_of_getElem? (i := 34) rfl))) (by decide) (backOf (W := 0) (rm5 l Z a0 hw [] r57 (1 : Int32) T60.heap n0 Z60 u60_11) hZ (hw _ (List.mem_of_getElem? (i := 36) rfl)) (hw _ (List.mem_of_getElem? (i := 21) rfl)) (by decide) (by decide)) q61a q61c (g := (mkF m 84 #[.val (.int p1), .val (.int p2), .val (.int p3), .val (.int p4), .val (.int p5), .val (.int (1 : Int32)), .val (.int (1 : Int32)), .val (.ref o51), .val (.ref r57), .unset] [(.ref r57)])) rfl (by rw [hml]; rfl) (Steps.refl _) (argsL := []) (rest := []) (lenOf pd_5 rfl) rfl (by show 2 * 0 + _ ≤ _; exact Nat.le_of_eq rfl) (hb hby at_84) (fun _ _ => ⟨rfl, rfl, (by decide : 6 + 0 ≤ _), (by decide : 4103 + 0 ≤ _)⟩)
      dsimp only [Pt.U, Pt.locs, Pt.cells, Pt.slots] at X61 l61 y61 z61 st61 hQ61
      subst l61 y61 z61
      obtain ⟨hv61, N61q, e61⟩ := hQ61
      rw [show f5 r57 (1 : Int32) = (1 : Int32) from rfl] at hv61
      subst hv61
      have N61 := Fr.app N60 N61q
      have h62 : (1 : Int32) = (1 : Int32) := by decide
      obtain ⟨cq63, kq63, q63a, q63b, q63c⟩ := isOf hZ e61 u60_9
      obtain ⟨_, _, ⟨T63, L63, k63, n63⟩, -, X63, ⟨Lc63, hQ63, l63, y63, z63⟩, st63⟩ := X61.virtualBack hx (y := (⟨"com/example/apportion/apportion/AppendOnlyList$Prefix", "iterator", "()Ljava/util/Iterator;"⟩ : MethodName)) (z := (⟨"com/example/apportion/apportion/AppendOnlyList$Prefix", "iterator", "()Ljava/util/Iterator;"⟩ : MethodName)) hown (mvT hZ (hw _ (List.mem_of_getElem? (i := 37) rfl))) (mvT hZ (hw _ (List.mem_of_getElem? (i := 38) rfl))) (notFace_of_selects (args := #[]) (mvT hZ (hw _ (List.mem_of_getElem? (i := 40) rfl)))) (mvT hZ (hw _ (List.mem_of_getElem? (i := 40) rfl))) (mvT hZ (hw _ (List.mem_of_getElem? (i := 39) rfl))) (by decide) (backOf (W := 0) (rm6 l Z a0 hw [] r57 T60.heap n0 Z60) hZ (hw _ (List.mem_of_getElem? (i := 41) rfl)) (hw _ (List.mem_of_getElem? (i := 21) rfl)) (by decide) (by decide)) q63a q63c (g := (mkF m 96 #[.val (.int p1), .val (.int p2), .val (.int p3), .val (.int p4), .val (.int p5), .val (.int (1 : Int32)), .val (.int (1 : Int32)), .val (.ref o51), .val (.ref r57), .unset] [(.ref r57)])) rfl (by rw [hml]; rfl) (Steps.refl _) (argsL := []) (rest := []) (lenOf pd_6 rfl) rfl (by show 2 * 0 + _ ≤ _; exact Nat.le_of_eq rfl) (hb hby at_96) (fun _ _ => ⟨rfl, e61, (by decide : 6 + 1 ≤ _), (by decide : 4103 + 2 ≤ _)⟩)
      dsimp only [Pt.U, Pt.locs, Pt.cells, Pt.slots] at X63 l63 y63 z63 st63 hQ63
      subst l63 y63 z63
      obtain ⟨r63, rfl, N63q, Kc63, fr63_r, c63_0, c63_1, c63_2⟩ := hQ63
      have N63 := Fr.app N61 N63q
      have ne63_r_1 : o51 ≠ r63 := Nat.ne_of_lt (Nat.lt_of_lt_of_le c60_1.lt fr63_r)
      have ne63_r_2 : t152 ≠ r63 := Nat.ne_of_lt (Nat.lt_of_lt_of_le u60_1.lt fr63_r)
      have ne63_r_3 : r54 ≠ r63 := Nat.ne_of_lt (Nat.lt_of_lt_of_le u60_2.lt fr63_r)
      have ne63_r_4 : t255 ≠ r63 := Nat.ne_of_lt (Nat.lt_of_lt_of_le c60_2.lt fr63_r)
      have ne63_r_5 : r57 ≠ r63 := Nat.ne_of_lt (Nat.lt_of_lt_of_le u60_9.lt fr63_r)
      have ne63_r_6 : r59 ≠ r63 := Nat.ne_of_lt (Nat.lt_of_lt_of_le u60_12.lt fr63_r)
      have ge63_r : n0 ≤ r63 := Nat.le_trans Z60 fr63_r
      have sz63_r : h0.size ≤ r63 := Nat.le_trans K60.1 fr63_r
      have u63_0 := c60_1.keep Kc63
      have u63_1 := u60_1.keep Kc63
      have u63_2 := u60_2.keep Kc63
      have u63_3 := u60_3.keep Kc63 (List.not_mem_nil)
      have u63_4 := u60_4.keep Kc63 (List.not_mem_nil)
      have u63_5 := c60_2.keep Kc63
      have u63_6 := u60_9.keep Kc63
      have u63_7 := u60_10.keep Kc63 (List.not_mem_nil)
      have u63_8 := u60_11.keep Kc63 (List.not_mem_nil)
      have u63_9 := u60_12.keep Kc63
      have u63_10 := u60_13.keep Kc63 (List.not_mem_nil)
      have u63_11 := c60_0.keep Kc63 (List.not_mem_nil)
      have u63_12 := c60_3.keep Kc63 (List.not_mem_nil)
      have u63_13 := c60_4.keep Kc63 (List.not_mem_nil)
      have OL63 := OL60.keep Kc63 (fun x hx => absurd hx List.not_mem_nil)
      have K63 := K60.trans Kc63 (fun x hx => absurd hx List.not_mem_nil)
      have Z63 : n0 ≤ T63.heap.size := Nat.le_trans Z60 Kc63.1
      have h64 : ¬ ((1 : Int32) < (1 : Int32)) := by decide
      obtain ⟨cq65, kq65, q65a, q65b, q65c⟩ := isOf hZ rfl c63_0
      obtain ⟨_, _, ⟨T65, L65, k65, n65⟩, -, X65, ⟨Lc65, hQ65, l65, y65, z65⟩, st65⟩ := X63.interfaceBack hx (xi := (⟨"java/util/Iterator", "next", "()Ljava/lang/Object;"⟩ : MethodName)) (y := (⟨"com/example/apportion/apportion/AppendOnlyList$Prefix$1", "next", "()Ljava/lang/Object;"⟩ : MethodName)) hown (mvT hZ (hw _ (List.mem_of_getElem? (i := 94) rfl))) (mvT hZ (hw _ (List.mem_of_getElem? (i := 95) rfl))) (mvT hZ (hw _ (List.mem_of_getElem? (i := 96) rfl))) (mvT hZ (hw _ (List.mem_of_getElem? (i := 97) rfl))) (mvT hZ (hw _ (List.mem_of_getElem? (i := 98) rfl))) (mvT hZ (hw _ (List.mem_of_getElem? (i := 99) rfl))) (mvT hZ (hw _ (List.mem_of_getElem? (i := 100) rfl))) (mvT hZ (hw _ (List.mem_of_getElem? (i := 58) rfl))) (by decide) (backOf (W := 0) (rmnx01 l Z a0 hw [] r63 r57 t152 k_t152 t255 k_t255 r54 (.ref r59) .null T63.heap n0 Z63 c63_0 ge63_r c63_1 c63_2 u63_6 u63_8 u63_7 u63_4 u63_1 u63_11 u63_5) hZ (hw _ (List.mem_of_getElem? (i := 101) rfl)) (hw _ (List.mem_of_getElem? (i := 44) rfl)) (by decide) (by decide)) q65a q65b q65c (g := (mkF m 109 #[.val (.int p1), .val (.int p2), .val (.int p3), .val (.int p4), .val (.int p5), .val (.int (1 : Int32)), .val (.int (1 : Int32)), .val (.ref o51), .val (.ref r57), .val (.ref r63)] [(.ref r63)])) rfl (by rw [hml]; rfl) (Steps.refl _) (argsL := []) (rest := []) (lenOf pd_10 rfl) rfl (by show 2 * 0 + _ ≤ _; exact Nat.le_of_eq rfl) (hb hby at_109) (fun _ _ => ⟨rfl, rfl, (by decide : 7 + 0 ≤ _), (by decide : 4105 + 0 ≤ _)⟩)
      dsimp only [Pt.U, Pt.locs, Pt.cells, Pt.slots] at X65 l65 y65 z65 st65 hQ65
      subst l65 y65 z65
      obtain ⟨rfl, N65q, Kc65, c65_0, c65_1, c65_2⟩ := hQ65
      have N65 := Fr.app N63 N65q
      have u65_0 := u63_0.keep Kc65
      have u65_1 := u63_1.keep Kc65
      have u65_2 := u63_2.keep Kc65
      have u65_3 := u63_3.keep Kc65 (by simp only [List.mem_cons, List.not_mem_nil, or_false, not_or]; exact ne63_r_3)
      have u65_4 := u63_4.keep Kc65 (by simp only [List.mem_cons, List.not_mem_nil, or_false, not_or]; exact ne63_r_2)
      have u65_5 := u63_5.keep Kc65
      have u65_6 := u63_6.keep Kc65
      have u65_7 := u63_7.keep Kc65 (by simp only [List.mem_cons, List.not_mem_nil, or_false, not_or]; exact ne63_r_5)
      have u65_8 := u63_8.keep Kc65 (by simp only [List.mem_cons, List.not_mem_nil, or_false, not_or]; exact ne63_r_5)
      have u65_9 := u63_9.keep Kc65
      have u65_10 := u63_10.keep Kc65 (by simp only [List.mem_cons, List.not_mem_nil, or_false, not_or]; exact ne63_r_6)
      have u65_11 := u63_11.keep Kc65 (by simp only [List.mem_cons, List.not_mem_nil, or_false, not_or]; exact ne63_r_4)
      have u65_12 := u63_12.keep Kc65 (by simp only [List.mem_cons, List.not_mem_nil, or_false, not_or]; exact ne63_r_1)
      have u65_13 := u63_13.keep Kc65 (by simp only [List.mem_cons, List.not_mem_nil, or_false, not_or]; exact ne63_r_1)
      have u65_14 := c63_0.keep Kc65
      have OL65 := OL63.keep Kc65 (fun x hx => by cases List.mem_singleton.mp hx; exact ge63_r)
      have K65 := K63.trans Kc65 (fun x hx => by cases List.mem_singleton.mp hx; exact Or.inr sz63_r)
      have Z65 : n0 ≤ T65.heap.size := Nat.le_trans Z63 Kc65.1
      obtain ⟨T66, X66, e66, st66⟩ := castY X65 hx hZ hown (hw _ (List.mem_of_getElem? (i := 103) rfl)) rfl (Ins.self u65_2) (g := (mkF m 114 #[.val (.int p1), .val (.int p2), .val (.int p3), .val (.int p4), .val (.int p5), .val (.int (1 : Int32)), .val (.int (1 : Int32)), .val (.ref o51), .val (.ref r57), .val (.ref r63)] [(.ref r54)])) rfl rfl (hb hby at_114)
      obtain ⟨cq67, kq67, q67a, q67b, q67c⟩ := isOf hZ e66 u65_2
      obtain ⟨_, _, ⟨T67, L67, k67, n67⟩, -, X67, ⟨Lc67, hQ67, l67, y67, z67⟩, st67⟩ := X66.virtualBack hx (y := (⟨"java/lang/Integer", "intValue", "()I"⟩ : MethodName)) (z := (⟨"java/lang/Integer", "intValue", "()I"⟩ : MethodName)) hown (mvT hZ (hw _ (List.mem_of_getElem? (i := 104) rfl))) (mvT hZ (hw _ (List.mem_of_getElem? (i := 105) rfl))) (notFace_of_selects (args := #[]) (mvT hZ (hw _ (List.mem_of_getElem? (i := 107) rfl)))) (mvT hZ (hw _ (List.mem_of_getElem? (i := 107) rfl))) (mvT hZ (hw _ (List.mem_of_getElem? (i := 106) rfl))) (by decide) (backOf (W := 0) (rm14 l Z a0 hw [] r54 p2 T65.heap n0 Z65 u65_3) hZ (hw _ (List.mem_of_getElem? (i := 108) rfl)) (hw _ (List.mem_of_getElem? (i := 65) rfl)) (by decide) (by decide)) q67a q67c (g := (mkF m 117 #[.val (.int p1), .val (.int p2), .val (.int p3), .val (.int p4), .val (.int p5), .val (.int (1 : Int32)), .val (.int (1 : Int32)), .val (.ref o51), .val (.ref r57), .val (.ref r63)] [(.ref r54)])) rfl (by rw [hml]; rfl) (Steps.refl _) (argsL := []) (rest := []) (lenOf pd_5 rfl) rfl (by show 2 * 0 + _ ≤ _; exact Nat.le_of_eq rfl) (hb hby at_117) (fun _ _ => ⟨rfl, e66, (by decide : 7 + 0 ≤ _), (by decide : 4105 + 0 ≤ _)⟩)
      dsimp only [Pt.U, Pt.locs, Pt.cells, Pt.slots] at X67 l67 y67 z67 st67 hQ67
      subst l67 y67 z67
      obtain ⟨hv67, N67q, e67⟩ := hQ67
      rw [show f14 r54 p2 = p2 from rfl] at hv67
      subst hv67
      have N67 := Fr.app N65 N67q
      have h68 : p2 = p2 := rfl
      have h69 : (1 : Int32) < (2 : Int32) := by decide
      obtain ⟨cq70, kq70, q70a, q70b, q70c⟩ := isOf hZ e67 c65_0
      obtain ⟨_, _, ⟨T70, L70, k70, n70⟩, -, X70, ⟨Lc70, hQ70, l70, y70, z70⟩, st70⟩ := X67.interfaceBack hx (xi := (⟨"java/util/Iterator", "hasNext", "()Z"⟩ : MethodName)) (y := (⟨"com/example/apportion/apportion/AppendOnlyList$Prefix$1", "hasNext", "()Z"⟩ : MethodName)) hown (mvT hZ (hw _ (List.mem_of_getElem? (i := 51) rfl))) (mvT hZ (hw _ (List.mem_of_getElem? (i := 52) rfl))) (mvT hZ (hw _ (List.mem_of_getElem? (i := 53) rfl))) (mvT hZ (hw _ (List.mem_of_getElem? (i := 54) rfl))) (mvT hZ (hw _ (List.mem_of_getElem? (i := 55) rfl))) (mvT hZ (hw _ (List.mem_of_getElem? (i := 56) rfl))) (mvT hZ (hw _ (List.mem_of_getElem? (i := 57) rfl))) (mvT hZ (hw _ (List.mem_of_getElem? (i := 58) rfl))) (by decide) (backOf (W := 0) (rm8 l Z a0 hw [] r63 (1 : Int32) r57 (1 : Int32) T65.heap n0 Z65 c65_1 c65_2 u65_8) hZ (hw _ (List.mem_of_getElem? (i := 59) rfl)) (hw _ (List.mem_of_getElem? (i := 44) rfl)) (by decide) (by decide)) q70a q70b q70c (g := (mkF m 153 #[.val (.int p1), .val (.int p2), .val (.int p3), .val (.int p4), .val (.int p5), .val (.int (1 : Int32)), .val (.int (1 : Int32)), .val (.ref o51), .val (.ref r57), .val (.ref r63)] [(.ref r63)])) rfl (by rw [hml]; rfl) (Steps.refl _) (argsL := []) (rest := []) (lenOf pd_7 rfl) rfl (by show 2 * 0 + _ ≤ _; exact Nat.le_of_eq rfl) (hb hby at_153) (fun _ _ => ⟨rfl, e67, (by decide : 7 + 0 ≤ _), (by decide : 4105 + 0 ≤ _)⟩)
      dsimp only [Pt.U, Pt.locs, Pt.cells, Pt.slots] at X70 l70 y70 z70 st70 hQ70
      subst l70 y70 z70
      obtain ⟨hv70, N70q, e70⟩ := hQ70
      rw [show f8 r63 (1 : Int32) r57 (1 : Int32) = (0 : Int32) from if_neg (by decide)] at hv70
      subst hv70
      have N70 := Fr.app N67 N70q
      have h71 : (0 : Int32) = (0 : Int32) := by decide
      obtain ⟨fs, hr, hrun, hended, hW, hsame⟩ := X70.leave (v := some (.int (1 : Int32))) (fun h => by rw [Bd.returns] at h; cases h)
      refine ⟨_, _, ?_, hrun, hended, _, _, rfl, ?_, ⟨_, rfl⟩, hW, hsame.mono (by decide) (by decide)⟩
      · show Steps p.tables e below (s₁.setTop (mkF m 12 #[.val (.int p1), .val (.int p2), .val (.int p3), .val (.int p4), .val (.int p5), .val (.int (1 : Int32)), .unset, .unset, .unset, .unset] [(.int (p5 &&& (1 : Int32)))])) _
        refine XS.ifNo X0.here hx rfl (hb hby at_12) rfl ((if0 _ _).trans (feq h31).1) ?_
        show Steps p.tables e below (s₁.setTop (mkF m 15 #[.val (.int p1), .val (.int p2), .val (.int p3), .val (.int p4), .val (.int p5), .val (.int (1 : Int32)), .unset, .unset, .unset, .unset] [])) _
        refine XS.iconst X0.here hx rfl (hb hby at_15) ?_
        show Steps p.tables e below (s₁.setTop (mkF m 16 #[.val (.int p1), .val (.int p2), .val (.int p3), .val (.int p4), .val (.int p5), .val (.int (1 : Int32)), .unset, .unset, .unset, .unset] [(.int (1 : Int32))])) _
        refine XS.goto X0.here hx rfl (pc0 := 16) (pc' := 20) rfl (hb hby at_16) (by decide) (by decide) ?_
        show Steps p.tables e below (s₁.setTop (mkF m 20 #[.val (.int p1), .val (.int p2), .val (.int p3), .val (.int p4), .val (.int p5), .val (.int (1 : Int32)), .unset, .unset, .unset, .unset] [(.int (1 : Int32))])) _
        refine XS.istore X0.here hx rfl (hb hby at_20) rfl (l' := #[.val (.int p1), .val (.int p2), .val (.int p3), .val (.int p4), .val (.int p5), .val (.int (1 : Int32)), .val (.int (1 : Int32)), .unset, .unset, .unset]) rfl ?_
        show Steps p.tables e below (s₁.setTop (mkF m 22 #[.val (.int p1), .val (.int p2), .val (.int p3), .val (.int p4), .val (.int p5), .val (.int (1 : Int32)), .val (.int (1 : Int32)), .unset, .unset, .unset] [])) _
        refine st51 _ ?_
        show Steps p.tables e below (T51.setTop (mkF m 25 #[.val (.int p1), .val (.int p2), .val (.int p3), .val (.int p4), .val (.int p5), .val (.int (1 : Int32)), .val (.int (1 : Int32)), .unset, .unset, .unset] [(.ref o51)])) _
        refine XS.dup X51.here hx rfl (hb hby at_25) rfl rfl ?_
        show Steps p.tables e below (T51.setTop (mkF m 26 #[.val (.int p1), .val (.int p2), .val (.int p3), .val (.int p4), .val (.int p5), .val (.int (1 : Int32)), .val (.int (1 : Int32)), .unset, .unset, .unset] [(.ref o51), (.ref o51)])) _
        refine st52.trans ?_
        show Steps p.tables e below (T52.setTop (mkF m 29 #[.val (.int p1), .val (.int p2), .val (.int p3), .val (.int p4), .val (.int p5), .val (.int (1 : Int32)), .val (.int (1 : Int32)), .unset, .unset, .unset] [(.ref o51)])) _
        refine XS.astore X52.here hx rfl (hb hby at_29) rfl rfl (l' := #[.val (.int p1), .val (.int p2), .val (.int p3), .val (.int p4), .val (.int p5), .val (.int (1 : Int32)), .val (.int (1 : Int32)), .val (.ref o51), .unset, .unset]) rfl ?_
        show Steps p.tables e below (T52.setTop (mkF m 31 #[.val (.int p1), .val (.int p2), .val (.int p3), .val (.int p4), .val (.int p5), .val (.int (1 : Int32)), .val (.int (1 : Int32)), .val (.ref o51), .unset, .unset] [])) _
        refine XS.iload X52.here hx rfl (hb hby at_31) rfl ?_
        show Steps p.tables e below (T52.setTop (mkF m 33 #[.val (.int p1), .val (.int p2), .val (.int p3), .val (.int p4), .val (.int p5), .val (.int (1 : Int32)), .val (.int (1 : Int32)), .val (.ref o51), .unset, .unset] [(.int (1 : Int32))])) _
        refine XS.iconst X52.here hx rfl (hb hby at_33) ?_
        show Steps p.tables e below (T52.setTop (mkF m 34 #[.val (.int p1), .val (.int p2), .val (.int p3), .val (.int p4), .val (.int p5), .val (.int (1 : Int32)), .val (.int (1 : Int32)), .val (.ref o51), .unset, .unset] [(.int (1 : Int32)), (.int (1 : Int32))])) _
        refine XS.icmpNo X52.here hx rfl (hb hby at_34) rfl (flt h53).1 ?_
        show Steps p.tables e below (T52.setTop (mkF m 37 #[.val (.int p1), .val (.int p2), .val (.int p3), .val (.int p4), .val (.int p5), .val (.int (1 : Int32)), .val (.int (1 : Int32)), .val (.ref o51), .unset, .unset] [])) _
        refine XS.aload X52.here hx rfl (hb hby at_37) rfl rfl ?_
        show Steps p.tables e below (T52.setTop (mkF m 39 #[.val (.int p1), .val (.int p2), .val (.int p3), .val (.int p4), .val (.int p5), .val (.int (1 : Int32)), .val (.int (1 : Int32)), .val (.ref o51), .unset, .unset] [(.ref o51)])) _
        refine XS.iloadN X52.here hx rfl (hb hby at_39) rfl ?_
        show Steps p.tables e below (T52.setTop (mkF m 40 #[.val (.int p1), .val (.int p2), .val (.int p3), .val (.int p4), .val (.int p5), .val (.int (1 : Int32)), .val (.int (1 : Int32)), .val (.ref o51), .unset, .unset] [(.int p2), (.ref o51)])) _
        refine st54 _ ?_
        show Steps p.tables e below (T54.setTop (mkF m 43 #[.val (.int p1), .val (.int p2), .val (.int p3), .val (.int p4), .val (.int p5), .val (.int (1 : Int32)), .val (.int (1 : Int32)), .val (.ref o51), .unset, .unset] [(.ref r54), (.ref o51)])) _
        refine st55.trans ?_
        show Steps p.tables e below (T55.setTop (mkF m 46 #[.val (.int p1), .val (.int p2), .val (.int p3), .val (.int p4), .val (.int p5), .val (.int (1 : Int32)), .val (.int (1 : Int32)), .val (.ref o51), .unset, .unset] [])) _
        refine XS.iload X55.here hx rfl (hb hby at_46) rfl ?_
        show Steps p.tables e below (T55.setTop (mkF m 48 #[.val (.int p1), .val (.int p2), .val (.int p3), .val (.int p4), .val (.int p5), .val (.int (1 : Int32)), .val (.int (1 : Int32)), .val (.ref o51), .unset, .unset] [(.int (1 : Int32))])) _
        refine XS.iconst X55.here hx rfl (hb hby at_48) ?_
        show Steps p.tables e below (T55.setTop (mkF m 49 #[.val (.int p1), .val (.int p2), .val (.int p3), .val (.int p4), .val (.int p5), .val (.int (1 : Int32)), .val (.int (1 : Int32)), .val (.ref o51), .unset, .unset] [(.int (2 : Int32)), (.int (1 : Int32))])) _
        refine XS.icmpYes X55.here hx rfl (pc0 := 49) (pc' := 61) rfl (hb hby at_49) rfl (tlt h56).1 (by decide) (by decide) ?_
        show Steps p.tables e below (T55.setTop (mkF m 61 #[.val (.int p1), .val (.int p2), .val (.int p3), .val (.int p4), .val (.int p5), .val (.int (1 : Int32)), .val (.int (1 : Int32)), .val (.ref o51), .unset, .unset] [])) _
        refine XS.aload X55.here hx rfl (hb hby at_61) rfl rfl ?_
        show Steps p.tables e below (T55.setTop (mkF m 63 #[.val (.int p1), .val (.int p2), .val (.int p3), .val (.int p4), .val (.int p5), .val (.int (1 : Int32)), .val (.int (1 : Int32)), .val (.ref o51), .unset, .unset] [(.ref o51)])) _
        refine st57.trans ?_
        show Steps p.tables e below (T57.setTop (mkF m 66 #[.val (.int p1), .val (.int p2), .val (.int p3), .val (.int p4), .val (.int p5), .val (.int (1 : Int32)), .val (.int (1 : Int32)), .val (.ref o51), .unset, .unset] [(.ref r57)])) _
        refine XS.astore X57.here hx rfl (hb hby at_66) rfl rfl (l' := #[.val (.int p1), .val (.int p2), .val (.int p3), .val (.int p4), .val (.int p5), .val (.int (1 : Int32)), .val (.int (1 : Int32)), .val (.ref o51), .val (.ref r57), .unset]) rfl ?_
        show Steps p.tables e below (T57.setTop (mkF m 68 #[.val (.int p1), .val (.int p2), .val (.int p3), .val (.int p4), .val (.int p5), .val (.int (1 : Int32)), .val (.int (1 : Int32)), .val (.ref o51), .val (.ref r57), .unset] [])) _
        refine XS.iload X57.here hx rfl (hb hby at_68) rfl ?_
        show Steps p.tables e below (T57.setTop (mkF m 70 #[.val (.int p1), .val (.int p2), .val (.int p3), .val (.int p4), .val (.int p5), .val (.int (1 : Int32)), .val (.int (1 : Int32)), .val (.ref o51), .val (.ref r57), .unset] [(.int (1 : Int32))])) _
        refine XS.ifNo X57.here hx rfl (hb hby at_70) rfl ((if0 _ _).trans (feq h58).1) ?_
        show Steps p.tables e below (T57.setTop (mkF m 73 #[.val (.int p1), .val (.int p2), .val (.int p3), .val (.int p4), .val (.int p5), .val (.int (1 : Int32)), .val (.int (1 : Int32)), .val (.ref o51), .val (.ref r57), .unset] [])) _
        refine XS.aload X57.here hx rfl (hb hby at_73) rfl rfl ?_
        show Steps p.tables e below (T57.setTop (mkF m 75 #[.val (.int p1), .val (.int p2), .val (.int p3), .val (.int p4), .val (.int p5), .val (.int (1 : Int32)), .val (.int (1 : Int32)), .val (.ref o51), .val (.ref r57), .unset] [(.ref o51)])) _
        refine XS.iloadN X57.here hx rfl (hb hby at_75) rfl ?_
        show Steps p.tables e below (T57.setTop (mkF m 76 #[.val (.int p1), .val (.int p2), .val (.int p3), .val (.int p4), .val (.int p5), .val (.int (1 : Int32)), .val (.int (1 : Int32)), .val (.ref o51), .val (.ref r57), .unset] [(.int p4), (.ref o51)])) _
        refine st59 _ ?_
        show Steps p.tables e below (T59.setTop (mkF m 79 #[.val (.int p1), .val (.int p2), .val (.int p3), .val (.int p4), .val (.int p5), .val (.int (1 : Int32)), .val (.int (1 : Int32)), .val (.ref o51), .val (.ref r57), .unset] [(.ref r59), (.ref o51)])) _
        refine st60.trans ?_
        show Steps p.tables e below (T60.setTop (mkF m 82 #[.val (.int p1), .val (.int p2), .val (.int p3), .val (.int p4), .val (.int p5), .val (.int (1 : Int32)), .val (.int (1 : Int32)), .val (.ref o51), .val (.ref r57), .unset] [])) _
        refine XS.aload X60.here hx rfl (hb hby at_82) rfl rfl ?_
        show Steps p.tables e below (T60.setTop (mkF m 84 #[.val (.int p1), .val (.int p2), .val (.int p3), .val (.int p4), .val (.int p5), .val (.int (1 : Int32)), .val (.int (1 : Int32)), .val (.ref o51), .val (.ref r57), .unset] [(.ref r57)])) _
        refine st61.trans ?_
        show Steps p.tables e below (T61.setTop (mkF m 87 #[.val (.int p1), .val (.int p2), .val (.int p3), .val (.int p4), .val (.int p5), .val (.int (1 : Int32)), .val (.int (1 : Int32)), .val (.ref o51), .val (.ref r57), .unset] [(.int (1 : Int32))])) _
        refine XS.iload X61.here hx rfl (hb hby at_87) rfl ?_
        show Steps p.tables e below (T61.setTop (mkF m 89 #[.val (.int p1), .val (.int p2), .val (.int p3), .val (.int p4), .val (.int p5), .val (.int (1 : Int32)), .val (.int (1 : Int32)), .val (.ref o51), .val (.ref r57), .unset] [(.int (1 : Int32)), (.int (1 : Int32))])) _
        refine XS.icmpYes X61.here hx rfl (pc0 := 89) (pc' := 94) rfl (hb hby at_89) rfl (teq h62).1 (by decide) (by decide) ?_
        show Steps p.tables e below (T61.setTop (mkF m 94 #[.val (.int p1), .val (.int p2), .val (.int p3), .val (.int p4), .val (.int p5), .val (.int (1 : Int32)), .val (.int (1 : Int32)), .val (.ref o51), .val (.ref r57), .unset] [])) _
        refine XS.aload X61.here hx rfl (hb hby at_94) rfl rfl ?_
        show Steps p.tables e below (T61.setTop (mkF m 96 #[.val (.int p1), .val (.int p2), .val (.int p3), .val (.int p4), .val (.int p5), .val (.int (1 : Int32)), .val (.int (1 : Int32)), .val (.ref o51), .val (.ref r57), .unset] [(.ref r57)])) _
        refine st63.trans ?_
        show Steps p.tables e below (T63.setTop (mkF m 99 #[.val (.int p1), .val (.int p2), .val (.int p3), .val (.int p4), .val (.int p5), .val (.int (1 : Int32)), .val (.int (1 : Int32)), .val (.ref o51), .val (.ref r57), .unset] [(.ref r63)])) _
        refine XS.astore X63.here hx rfl (hb hby at_99) rfl rfl (l' := #[.val (.int p1), .val (.int p2), .val (.int p3), .val (.int p4), .val (.int p5), .val (.int (1 : Int32)), .val (.int (1 : Int32)), .val (.ref o51), .val (.ref r57), .val (.ref r63)]) rfl ?_
        show Steps p.tables e below (T63.setTop (mkF m 101 #[.val (.int p1), .val (.int p2), .val (.int p3), .val (.int p4), .val (.int p5), .val (.int (1 : Int32)), .val (.int (1 : Int32)), .val (.ref o51), .val (.ref r57), .val (.ref r63)] [])) _
        refine XS.iload X63.here hx rfl (hb hby at_101) rfl ?_
        show Steps p.tables e below (T63.setTop (mkF m 103 #[.val (.int p1), .val (.int p2), .val (.int p3), .val (.int p4), .val (.int p5), .val (.int (1 : Int32)), .val (.int (1 : Int32)), .val (.ref o51), .val (.ref r57), .val (.ref r63)] [(.int (1 : Int32))])) _
        refine XS.iconst X63.here hx rfl (hb hby at_103) ?_
        show Steps p.tables e below (T63.setTop (mkF m 104 #[.val (.int p1), .val (.int p2), .val (.int p3), .val (.int p4), .val (.int p5), .val (.int (1 : Int32)), .val (.int (1 : Int32)), .val (.ref o51), .val (.ref r57), .val (.ref r63)] [(.int (1 : Int32)), (.int (1 : Int32))])) _
        refine XS.icmpNo X63.here hx rfl (hb hby at_104) rfl (flt h64).1 ?_
        show Steps p.tables e below (T63.setTop (mkF m 107 #[.val (.int p1), .val (.int p2), .val (.int p3), .val (.int p4), .val (.int p5), .val (.int (1 : Int32)), .val (.int (1 : Int32)), .val (.ref o51), .val (.ref r57), .val (.ref r63)] [])) _
        refine XS.aload X63.here hx rfl (hb hby at_107) rfl rfl ?_
        show Steps p.tables e below (T63.setTop (mkF m 109 #[.val (.int p1), .val (.int p2), .val (.int p3), .val (.int p4), .val (.int p5), .val (.int (1 : Int32)), .val (.int (1 : Int32)), .val (.ref o51), .val (.ref r57), .val (.ref r63)] [(.ref r63)])) _
        refine st65.trans ?_
        show Steps p.tables e below (T65.setTop (mkF m 114 #[.val (.int p1), .val (.int p2), .val (.int p3), .val (.int p4), .val (.int p5), .val (.int (1 : Int32)), .val (.int (1 : Int32)), .val (.ref o51), .val (.ref r57), .val (.ref r63)] [(.ref r54)])) _
        refine st66 _ ?_
        show Steps p.tables e below (T66.setTop (mkF m 117 #[.val (.int p1), .val (.int p2), .val (.int p3), .val (.int p4), .val (.int p5), .val (.int (1 : Int32)), .val (.int (1 : Int32)), .val (.ref o51), .val (.ref r57), .val (.ref r63)] [(.ref r54)])) _
        refine st67.trans ?_
        show Steps p.tables e below (T67.setTop (mkF m 120 #[.val (.int p1), .val (.int p2), .val (.int p3), .val (.int p4), .val (.int p5), .val (.int (1 : Int32)), .val (.int (1 : Int32)), .val (.ref o51), .val (.ref r57), .val (.ref r63)] [(.int p2)])) _
        refine XS.iloadN X67.here hx rfl (hb hby at_120) rfl ?_
        show Steps p.tables e below (T67.setTop (mkF m 121 #[.val (.int p1), .val (.int p2), .val (.int p3), .val (.int p4), .val (.int p5), .val (.int (1 : Int32)), .val (.int (1 : Int32)), .val (.ref o51), .val (.ref r57), .val (.ref r63)] [(.int p2), (.int p2)])) _
        refine XS.icmpYes X67.here hx rfl (pc0 := 121) (pc' := 126) rfl (hb hby at_121) rfl (teq h68).1 (by decide) (by decide) ?_
        show Steps p.tables e below (T67.setTop (mkF m 126 #[.val (.int p1), .val (.int p2), .val (.int p3), .val (.int p4), .val (.int p5), .val (.int (1 : Int32)), .val (.int (1 : Int32)), .val (.ref o51), .val (.ref r57), .val (.ref r63)] [])) _
        refine XS.iload X67.here hx rfl (hb hby at_126) rfl ?_
        show Steps p.tables e below (T67.setTop (mkF m 128 #[.val (.int p1), .val (.int p2), .val (.int p3), .val (.int p4), .val (.int p5), .val (.int (1 : Int32)), .val (.int (1 : Int32)), .val (.ref o51), .val (.ref r57), .val (.ref r63)] [(.int (1 : Int32))])) _
        refine XS.iconst X67.here hx rfl (hb hby at_128) ?_
        show Steps p.tables e below (T67.setTop (mkF m 129 #[.val (.int p1), .val (.int p2), .val (.int p3), .val (.int p4), .val (.int p5), .val (.int (1 : Int32)), .val (.int (1 : Int32)), .val (.ref o51), .val (.ref r57), .val (.ref r63)] [(.int (2 : Int32)), (.int (1 : Int32))])) _
        refine XS.icmpYes X67.here hx rfl (pc0 := 129) (pc' := 151) rfl (hb hby at_129) rfl (tlt h69).1 (by decide) (by decide) ?_
        show Steps p.tables e below (T67.setTop (mkF m 151 #[.val (.int p1), .val (.int p2), .val (.int p3), .val (.int p4), .val (.int p5), .val (.int (1 : Int32)), .val (.int (1 : Int32)), .val (.ref o51), .val (.ref r57), .val (.ref r63)] [])) _
        refine XS.aload X67.here hx rfl (hb hby at_151) rfl rfl ?_
        show Steps p.tables e below (T67.setTop (mkF m 153 #[.val (.int p1), .val (.int p2), .val (.int p3), .val (.int p4), .val (.int p5), .val (.int (1 : Int32)), .val (.int (1 : Int32)), .val (.ref o51), .val (.ref r57), .val (.ref r63)] [(.ref r63)])) _
        refine st70.trans ?_
        show Steps p.tables e below (T70.setTop (mkF m 158 #[.val (.int p1), .val (.int p2), .val (.int p3), .val (.int p4), .val (.int p5), .val (.int (1 : Int32)), .val (.int (1 : Int32)), .val (.ref o51), .val (.ref r57), .val (.ref r63)] [(.int (0 : Int32))])) _
        refine XS.ifNo X70.here hx rfl (hb hby at_158) rfl ((if0 _ _).trans (teq h71).2) ?_
        show Steps p.tables e below (T70.setTop (mkF m 161 #[.val (.int p1), .val (.int p2), .val (.int p3), .val (.int p4), .val (.int p5), .val (.int (1 : Int32)), .val (.int (1 : Int32)), .val (.ref o51), .val (.ref r57), .val (.ref r63)] [])) _
        refine XS.iconst X70.here hx rfl (hb hby at_161) ?_
        show Steps p.tables e below (T70.setTop (mkF m 162 #[.val (.int p1), .val (.int p2), .val (.int p3), .val (.int p4), .val (.int p5), .val (.int (1 : Int32)), .val (.int (1 : Int32)), .val (.ref o51), .val (.ref r57), .val (.ref r63)] [(.int (1 : Int32))])) _
        refine XS.goto X70.here hx rfl (pc0 := 162) (pc' := 166) rfl (hb hby at_162) (by decide) (by decide) ?_
        show Steps p.tables e below (T70.setTop (mkF m 166 #[.val (.int p1), .val (.int p2), .val (.int p3), .val (.int p4), .val (.int p5), .val (.int (1 : Int32)), .val (.int (1 : Int32)), .val (.ref o51), .val (.ref r57), .val (.ref r63)] [(.int (1 : Int32))])) _
        exact retN X70 hx (t := .boolean) Bd.returns (by simp) (hb hby at_166) hr
      · show Q0 Z p1 p2 p3 p4 p5 h0 n0 _ T70.heap _
        rw [e70]
        exact ⟨rfl, N70⟩
  · rw [hk1]
    refine own_step (B := s₁.setTop (mkF m 12 #[.val (.int p1), .val (.int p2), .val (.int p3), .val (.int p4), .val (.int p5), .val (.int (2 : Int32)), .unset, .unset, .unset, .unset] [(.int (p5 &&& (1 : Int32)))])) (fun t k => ?_) ?_
    · show Steps p.tables e below (s₁.setTop (mkF m 8 #[.val (.int p1), .val (.int p2), .val (.int p3), .val (.int p4), .val (.int p5), .val (.int (2 : Int32)), .unset, .unset, .unset, .unset] [])) _
      refine XS.iload X0.here hx rfl (hb hby at_8) rfl ?_
      show Steps p.tables e below (s₁.setTop (mkF m 10 #[.val (.int p1), .val (.int p2), .val (.int p3), .val (.int p4), .val (.int p5), .val (.int (2 : Int32)), .unset, .unset, .unset, .unset] [(.int p5)])) _
      refine XS.iconst X0.here hx rfl (hb hby at_10) ?_
      show Steps p.tables e below (s₁.setTop (mkF m 11 #[.val (.int p1), .val (.int p2), .val (.int p3), .val (.int p4), .val (.int p5), .val (.int (2 : Int32)), .unset, .unset, .unset, .unset] [(.int (1 : Int32)), (.int p5)])) _
      refine XS.iand X0.here hx rfl (hb hby at_11) rfl ?_
      exact k
    by_cases h72 : (p5 &&& (1 : Int32)) = (0 : Int32)
    · obtain ⟨T73, h73, X73, e73, E73, A73, D73, -, st73⟩ := newO X0 hx hZ hown (hw _ (List.mem_of_getElem? (i := 1) rfl)) (hw _ (List.mem_of_getElem? (i := 2) rfl)) (hw _ (List.mem_of_getElem? (i := 3) rfl)) e0 (g := (mkF m 22 #[.val (.int p1), .val (.int p2), .val (.int p3), .val (.int p4), .val (.int p5), .val (.int (2 : Int32)), .val (.int (0 : Int32)), .unset, .unset, .unset] [])) rfl (hb hby at_22) (by decide) (by decide)
      obtain ⟨o73, g73⟩ : ∃ z, z = h0.size := ⟨_, rfl⟩
      rw [← g73] at A73 D73 st73
      have ge73 : n0 ≤ o73 := Nat.le_trans Z0 (Nat.le_of_eq g73.symm)
      have Z73 : n0 ≤ h73.size := Nat.le_trans Z0 E73.1
      have sz73 : h0.size ≤ o73 := Nat.le_trans K0.1 (Nat.le_of_eq g73.symm)
      have K73 := K0.ext E73
      have OL73 := OLD.ext E73
      have D73_13 : Fld Z h73 o73 "com/example/apportion/apportion/AppendOnlyList" "chunks" "[[Ljava/lang/Object;" .null := D73 (Or.inl (hw _ (List.mem_of_getElem? (i := 13) rfl))) (ty := (.array (.array (.object "java/lang/Object")))) (by decide)
      have D73_23 : Fld Z h73 o73 "com/example/apportion/apportion/AppendOnlyList" "size" "I" (.int (0 : Int32)) := D73 (Or.inl (hw _ (List.mem_of_getElem? (i := 23) rfl))) (ty := .int) (by decide)
      obtain ⟨_, _, ⟨T74, L74, k74, n74⟩, -, X74, ⟨Lc74, hQ74, l74, y74, z74⟩, st74⟩ := X73.specialBack hx (y := (⟨"com/example/apportion/apportion/AppendOnlyList", "<init>", "()V"⟩ : MethodName)) rfl hown (mvT hZ (hw _ (List.mem_of_getElem? (i := 4) rfl))) (mvT hZ (hw _ (List.mem_of_getElem? (i := 5) rfl))) (mvT hZ (hw _ (List.mem_of_getElem? (i := 6) rfl))) (by decide) (backOf (W := 1) (rm1 l Z a0 hw [] o73 h73 n0 Z73 A73 ge73 D73_13 D73_23) hZ (hw _ (List.mem_of_getElem? (i := 6) rfl)) (hw _ (List.mem_of_getElem? (i := 3) rfl)) (by decide) (by decide)) (g := (mkF m 26 #[.val (.int p1), .val (.int p2), .val (.int p3), .val (.int p4), .val (.int p5), .val (.int (2 : Int32)), .val (.int (0 : Int32)), .unset, .unset, .unset] [(.ref o73), (.ref o73)])) rfl (by rw [hml]; rfl) (Steps.refl _) (a := o73) (argsL := []) (rest := [(.ref o73)]) (lenOf pd_0 rfl) rfl (by show 2 * 0 + _ ≤ _; exact Nat.le_of_eq rfl) (hb hby at_26) (fun _ _ => ⟨rfl, e73, (by decide : 1 + 1 ≤ _), (by decide : 2 + 1 ≤ _)⟩)
      dsimp only [Pt.U, Pt.locs, Pt.cells, Pt.slots] at X74 l74 y74 z74 st74 hQ74
      subst l74 y74 z74
      obtain ⟨t174, k_t174, rfl, N74q, Kc74, fr74_t1, c74_0, c74_1, c74_2, c74_3, c74_4, c74_5⟩ := hQ74
      have N74 := Fr.app N0 N74q
      have ne74_t1_1 : o73 ≠ t174 := Nat.ne_of_lt (Nat.lt_of_lt_of_le A73.lt fr74_t1)
      have ge74_t1 : n0 ≤ t174 := Nat.le_trans Z73 fr74_t1
      have sz74_t1 : h0.size ≤ t174 := Nat.le_trans K73.1 fr74_t1
      have u74_0 := A73.keep Kc74
      have OL74 := OL73.keep Kc74 (fun x hx => by cases List.mem_singleton.mp hx; exact ge73)
      have K74 := K73.trans Kc74 (fun x hx => by cases List.mem_singleton.mp hx; exact Or.inr sz73)
      have Z74 : n0 ≤ T74.heap.size := Nat.le_trans Z73 Kc74.1
      have h75 : ¬ ((2 : Int32) < (1 : Int32)) := by decide
      obtain ⟨_, _, ⟨T76, L76, k76, n76⟩, -, X76, ⟨Lc76, hQ76, l76, y76, z76⟩, st76⟩ := Jvm.LawKit.callS X74 hx (y := (⟨"java/lang/Integer", "valueOf", "(I)Ljava/lang/Integer;"⟩ : MethodName)) hown (mvT hZ (hw _ (List.mem_of_getElem? (i := 63) rfl))) (mvT hZ (hw _ (List.mem_of_getElem? (i := 64) rfl))) (mvT hZ (hw _ (List.mem_of_getElem? (i := 65) rfl))) (mvT hZ (hw _ (List.mem_of_getElem? (i := 66) rfl))) (by decide) (backOf (W := 1) (rm9 l Z a0 hw [] p2 T74.heap n0 Z74 OL74 hC) hZ (hw _ (List.mem_of_getElem? (i := 66) rfl)) (hw _ (List.mem_of_getElem? (i := 65) rfl)) (by decide) (by decide)) (g := (mkF m 40 #[.val (.int p1), .val (.int p2), .val (.int p3), .val (.int p4), .val (.int p5), .val (.int (2 : Int32)), .val (.int (0 : Int32)), .val (.ref o73), .unset, .unset] [(.int p2), (.ref o73)])) rfl (by rw [hml]; rfl) (argsL := [(.int p2)]) (rest := [(.ref o73)]) (lenOf pd_8 rfl) rfl (by show 2 * 0 + _ ≤ _; exact Nat.le_of_eq rfl) (hb hby at_40) (fun _ _ => ⟨rfl, rfl, (by decide : 2 + 1 ≤ _), (by decide : 3 + 1 ≤ _)⟩)
      dsimp only [Pt.U, Pt.locs, Pt.cells, Pt.slots] at X76 l76 y76 z76 st76 hQ76
      subst l76 y76 z76
      obtain ⟨r76, rfl, N76q, Kc76, c76_0, c76_1⟩ := hQ76
      have N76 := Fr.app N74 N76q
      have u76_0 := c74_1.keep Kc76
      have u76_1 := c74_0.keep Kc76 (List.not_mem_nil)
      have u76_2 := c74_2.keep Kc76
      have u76_3 := c74_3.keep Kc76 (List.not_mem_nil)
      have u76_4 := c74_4.keep Kc76 (List.not_mem_nil)
      have OL76 := OL74.keep Kc76 (fun x hx => absurd hx List.not_mem_nil)
      have K76 := K74.trans Kc76 (fun x hx => absurd hx List.not_mem_nil)
      have Z76 : n0 ≤ T76.heap.size := Nat.le_trans Z74 Kc76.1
      obtain ⟨cq77, kq77, q77a, q77b, q77c⟩ := isOf hZ rfl u76_0
      obtain ⟨_, _, ⟨T77, L77, k77, n77⟩, -, X77, ⟨Lc77, hQ77, l77, y77, z77⟩, st77⟩ := X76.virtualBack hx (y := (⟨"com/example/apportion/apportion/AppendOnlyList", "add", "(Ljava/lang/Object;)V"⟩ : MethodName)) (z := (⟨"com/example/apportion/apportion/AppendOnlyList", "add", "(Ljava/lang/Object;)V"⟩ : MethodName)) hown (mvT hZ (hw _ (List.mem_of_getElem? (i := 70) rfl))) (mvT hZ (hw _ (List.mem_of_getElem? (i := 71) rfl))) (notFace_of_selects (args := #[]) (mvT hZ (hw _ (List.mem_of_getElem? (i := 73) rfl)))) (mvT hZ (hw _ (List.mem_of_getElem? (i := 73) rfl))) (mvT hZ (hw _ (List.mem_of_getElem? (i := 72) rfl))) (by decide) (backOf (W := 0) (rmadd0 l Z a0 hw [] o73 r76 t174 k_t174 T76.heap n0 Z76 u76_0 ge73 u76_3 u76_4 u76_1 u76_2 ge74_t1 c74_5 c76_0) hZ (hw _ (List.mem_of_getElem? (i := 74) rfl)) (hw _ (List.mem_of_getElem? (i := 3) rfl)) (by decide) (by decide)) q77a q77c (g := (mkF m 43 #[.val (.int p1), .val (.int p2), .val (.int p3), .val (.int p4), .val (.int p5), .val (.int (2 : Int32)), .val (.int (0 : Int32)), .val (.ref o73), .unset, .unset] [(.ref r76), (.ref o73)])) rfl (by rw [hml]; rfl) (Steps.refl _) (argsL := [(.ref r76)]) (rest := []) (lenOf pd_9 rfl) rfl (by show 2 * 0 + _ ≤ _; exact Nat.le_of_eq rfl) (hb hby at_43) (fun _ _ => ⟨rfl, rfl, (by decide : 3 + 1 ≤ _), (by decide : 4 + 4096 ≤ _)⟩)
      dsimp only [Pt.U, Pt.locs, Pt.cells, Pt.slots] at X77 l77 y77 z77 st77 hQ77
      subst l77 y77 z77
      obtain ⟨t277, k_t277, rfl, N77q, Kc77, fr77_t2, c77_0, c77_1, c77_2, c77_3, c77_4, c77_5, c77_6, c77_7⟩ := hQ77
      have N77 := Fr.app N76 N77q
      have ne77_t2_1 : o73 ≠ t277 := Nat.ne_of_lt (Nat.lt_of_lt_of_le u76_0.lt fr77_t2)
      have ne77_t2_2 : t174 ≠ t277 := Nat.ne_of_lt (Nat.lt_of_lt_of_le u76_1.lt fr77_t2)
      have ne77_t2_3 : r76 ≠ t277 := Nat.ne_of_lt (Nat.lt_of_lt_of_le c76_0.lt fr77_t2)
      have ge77_t2 : n0 ≤ t277 := Nat.le_trans Z76 fr77_t2
      have sz77_t2 : h0.size ≤ t277 := Nat.le_trans K76.1 fr77_t2
      have u77_0 := u76_0.keep Kc77
      have u77_2 := u76_2.keep Kc77
      have u77_5 := c76_0.keep Kc77
      have u77_6 := c76_1.keep Kc77 (by simp only [List.mem_cons, List.not_mem_nil, or_false, not_or]; exact ⟨(ne_exa c76_0 u76_0 (by decide)), (ne_exa c76_0 u76_2 (by decide))⟩)
      have OL77 := OL76.keep Kc77 (fun x hx => by simp only [List.mem_cons, List.not_mem_nil, or_false] at hx; rcases hx with rfl | rfl; exact ge73; exact ge74_t1)
      have K77 := K76.trans Kc77 (fun x hx => by simp only [List.mem_cons, List.not_mem_nil, or_false] at hx; rcases hx with rfl | rfl; exact Or.inr sz73; exact Or.inr sz74_t1)
      have Z77 : n0 ≤ T77.heap.size := Nat.le_trans Z76 Kc77.1
      have h78 : ¬ ((2 : Int32) < (2 : Int32)) := by decide
      obtain ⟨_, _, ⟨T79, L79, k79, n79⟩, -, X79, ⟨Lc79, hQ79, l79, y79, z79⟩, st79⟩ := Jvm.LawKit.callS X77 hx (y := (⟨"java/lang/Integer", "valueOf", "(I)Ljava/lang/Integer;"⟩ : MethodName)) hown (mvT hZ (hw _ (List.mem_of_getElem? (i := 63) rfl))) (mvT hZ (hw _ (List.mem_of_getElem? (i := 64) rfl))) (mvT hZ (hw _ (List.mem_of_getElem? (i := 65) rfl))) (mvT hZ (hw _ (List.mem_of_getElem? (i := 66) rfl))) (by decide) (backOf (W := 1) (rm9 l Z a0 hw [] p3 T77.heap n0 Z77 OL77 hC) hZ (hw _ (List.mem_of_getElem? (i := 66) rfl)) (hw _ (List.mem_of_getElem? (i := 65) rfl)) (by decide) (by decide)) (g := (mkF m 55 #[.val (.int p1), .val (.int p2), .val (.int p3), .val (.int p4), .val (.int p5), .val (.int (2 : Int32)), .val (.int (0 : Int32)), .val (.ref o73), .unset, .unset] [(.int p3), (.ref o73)])) rfl (by rw [hml]; rfl) (argsL := [(.int p3)]) (rest := [(.ref o73)]) (lenOf pd_8 rfl) rfl (by show 2 * 0 + _ ≤ _; exact Nat.le_of_eq rfl) (hb hby at_55) (fun _ _ => ⟨rfl, rfl, (by decide : 4 + 1 ≤ _), (by decide : 4100 + 1 ≤ _)⟩)
      dsimp only [Pt.U, Pt.locs, Pt.cells, Pt.slots] at X79 l79 y79 z79 st79 hQ79
      subst l79 y79 z79
      obtain ⟨r79, rfl, N79q, Kc79, c79_0, c79_1⟩ := hQ79
      have N79 := Fr.app N77 N79q
      have u79_0 := c77_2.keep Kc79
      have u79_1 := c77_3.keep Kc79
      have u79_2 := u77_5.keep Kc79
      have u79_3 := u77_6.keep Kc79 (List.not_mem_nil)
      have u79_4 := c77_0.keep Kc79 (List.not_mem_nil)
      have u79_5 := c77_1.keep Kc79 (List.not_mem_nil)
      have u79_6 := c77_4.keep Kc79
      have u79_7 := c77_5.keep Kc79 (List.not_mem_nil)
      have u79_8 := c77_6.keep Kc79 (List.not_mem_nil)
      have OL79 := OL77.keep Kc79 (fun x hx => absurd hx List.not_mem_nil)
      have K79 := K77.trans Kc79 (fun x hx => absurd hx List.not_mem_nil)
      have Z79 : n0 ≤ T79.heap.size := Nat.le_trans Z77 Kc79.1
      obtain ⟨cq80, kq80, q80a, q80b, q80c⟩ := isOf hZ rfl u79_0
      obtain ⟨_, _, ⟨T80, L80, k80, n80⟩, -, X80, ⟨Lc80, hQ80, l80, y80, z80⟩, st80⟩ := X79.virtualBack hx (y := (⟨"com/example/apportion/apportion/AppendOnlyList", "add", "(Ljava/lang/Object;)V"⟩ : MethodName)) (z := (⟨"com/example/apportion/apportion/AppendOnlyList", "add", "(Ljava/lang/Object;)V"⟩ : MethodName)) hown (mvT hZ (hw _ (List.mem_of_getElem? (i := 70) rfl))) (mvT hZ (hw _ (List.mem_of_getElem? (i := 71) rfl))) (notFace_of_selects (args := #[]) (mvT hZ (hw _ (List.mem_of_getElem? (i := 73) rfl)))) (mvT hZ (hw _ (List.mem_of_getElem? (i := 73) rfl))) (mvT hZ (hw _ (List.mem_of_getElem? (i := 72) rfl))) (by decide) (backOf (W := 0) (rmadd1 l Z a0 hw [] o73 r79 t174 k_t174 t277 k_t277 (.ref r76) T79.heap n0 Z79 u79_0 ge73 u79_7 u79_8 u79_4 u79_1 ge74_t1 c74_5 c79_0 u79_5 u79_6 ge77_t2 c77_7) hZ (hw _ (List.mem_of_getElem? (i := 74) rfl)) (hw _ (List.mem_of_getElem? (i := 3) rfl)) (by decide) (by decide)) q80a q80c (g := (mkF m 58 #[.val (.int p1), .val (.int p2), .val (.int p3), .val (.int p4), .val (.int p5), .val (.int (2 : Int32)), .val (.int (0 : Int32)), .val (.ref o73), .unset, .unset] [(.ref r79), (.ref o73)])) rfl (by rw [hml]; rfl) (Steps.refl _) (argsL := [(.ref r79)]) (rest := []) (lenOf pd_9 rfl) rfl (by show 2 * 0 + _ ≤ _; exact Nat.le_of_eq rfl) (hb hby at_58) (fun _ _ => ⟨rfl, rfl, (by decide : 5 + 0 ≤ _), (by decide : 4101 + 0 ≤ _)⟩)
      dsimp only [Pt.U, Pt.locs, Pt.cells, Pt.slots] at X80 l80 y80 z80 st80 hQ80
      subst l80 y80 z80
      obtain ⟨rfl, N80q, Kc80, c80_0, c80_1, c80_2, c80_3, c80_4⟩ := hQ80
      have N80 := Fr.app N79 N80q
      have u80_0 := u79_0.keep Kc80
      have u80_1 := u79_1.keep Kc80
      have u80_2 := u79_2.keep Kc80
      have u80_3 := u79_3.keep Kc80 (by simp only [List.mem_cons, List.not_mem_nil, or_false, not_or]; exact ⟨(ne_exa u79_2 u79_0 (by decide)), ne77_t2_3⟩)
      have u80_4 := u79_4.keep Kc80 (by simp only [List.mem_cons, List.not_mem_nil, or_false, not_or]; exact ⟨(Ne.symm ne74_t1_1), ne77_t2_2⟩)
      have u80_6 := u79_6.keep Kc80
      have u80_9 := c79_0.keep Kc80
      have u80_10 := c79_1.keep Kc80 (by simp only [List.mem_cons, List.not_mem_nil, or_false, not_or]; exact ⟨(ne_exa c79_0 u79_0 (by decide)), (ne_exa c79_0 u79_6 (by decide))⟩)
      have OL80 := OL79.keep Kc80 (fun x hx => by simp only [List.mem_cons, List.not_mem_nil, or_false] at hx; rcases hx with rfl | rfl; exact ge73; exact ge77_t2)
      have K80 := K79.trans Kc80 (fun x hx => by simp only [List.mem_cons, List.not_mem_nil, or_false] at hx; rcases hx with rfl | rfl; exact Or.inr sz73; exact Or.inr sz77_t2)
      have Z80 : n0 ≤ T80.heap.size := Nat.le_trans Z79 Kc80.1
      obtain ⟨cq81, kq81, q81a, q81b, q81c⟩ := isOf hZ rfl c80_1
      obtain ⟨_, _, ⟨T81, L81, k81, n81⟩, -, X81, ⟨Lc81, hQ81, l81, y81, z81⟩, st81⟩ := X80.virtualBack hx (y := (⟨"com/example/apportion/apportion/AppendOnlyList", "prefix", "()Lcom/example/apportion/apportion/AppendOnlyList$Prefix;"⟩ : MethodName)) (z := (⟨"com/example/apportion/apportion/AppendOnlyList", "prefix", "()Lcom/example/apportion/apportion/AppendOnlyList$Prefix;"⟩ : MethodName)) hown (mvT hZ (hw _ (List.mem_of_getElem? (i := 14) rfl))) (mvT hZ (hw _ (List.mem_of_getElem? (i := 15) rfl))) (notFace_of_selects (args := #[]) (mvT hZ (hw _ (List.mem_of_getElem? (i := 17) rfl)))) (mvT hZ (hw _ (List.mem_of_getElem? (i := 17) rfl))) (mvT hZ (hw _ (List.mem_of_getElem? (i := 16) rfl))) (by decide) (backOf (W := 0) (rm3 l Z a0 hw [] o73 t174 (2 : Int32) T80.heap n0 Z80 c80_3 c80_4) hZ (hw _ (List.mem_of_getElem? (i := 18) rfl)) (hw _ (List.mem_of_getElem? (i := 3) rfl)) (by decide) (by decide)) q81a q81c (g := (mkF m 63 #[.val (.int p1), .val (.int p2), .val (.int p3), .val (.int p4), .val (.int p5), .val (.int (2 : Int32)), .val (.int (0 : Int32)), .val (.ref o73), .unset, .unset] [(.ref o73)])) rfl (by rw [hml]; rfl) (Steps.refl _) (argsL := []) (rest := []) (lenOf pd_4 rfl) rfl (by show 2 * 0 + _ ≤ _; exact Nat.le_of_eq rfl) (hb hby at_63) (fun _ _ => ⟨rfl, rfl, (by decide : 5 + 1 ≤ _), (by decide : 4101 + 2 ≤ _)⟩)
      dsimp only [Pt.U, Pt.locs, Pt.cells, Pt.slots] at X81 l81 y81 z81 st81 hQ81
      subst l81 y81 z81
      obtain ⟨r81, rfl, N81q, Kc81, fr81_r, c81_0, c81_1, c81_2⟩ := hQ81
      have N81 := Fr.app N80 N81q
      have ne81_r_1 : o73 ≠ r81 := Nat.ne_of_lt (Nat.lt_of_lt_of_le c80_1.lt fr81_r)
      have ne81_r_2 : t174 ≠ r81 := Nat.ne_of_lt (Nat.lt_of_lt_of_le u80_1.lt fr81_r)
      have ne81_r_3 : r76 ≠ r81 := Nat.ne_of_lt (Nat.lt_of_lt_of_le u80_2.lt fr81_r)
      have ne81_r_4 : t277 ≠ r81 := Nat.ne_of_lt (Nat.lt_of_lt_of_le c80_2.lt fr81_r)
      have ne81_r_5 : r79 ≠ r81 := Nat.ne_of_lt (Nat.lt_of_lt_of_le u80_9.lt fr81_r)
      have ge81_r : n0 ≤ r81 := Nat.le_trans Z80 fr81_r
      have sz81_r : h0.size ≤ r81 := Nat.le_trans K80.1 fr81_r
      have u81_0 := c80_1.keep Kc81
      have u81_1 := u80_1.keep Kc81
      have u81_2 := u80_2.keep Kc81
      have u81_3 := u80_3.keep Kc81 (List.not_mem_nil)
      have u81_4 := u80_4.keep Kc81 (List.not_mem_nil)
      have u81_5 := c80_2.keep Kc81
      have u81_6 := u80_9.keep Kc81
      have u81_7 := u80_10.keep Kc81 (List.not_mem_nil)
      have u81_8 := c80_0.keep Kc81 (List.not_mem_nil)
      have u81_9 := c80_3.keep Kc81 (List.not_mem_nil)
      have u81_10 := c80_4.keep Kc81 (List.not_mem_nil)
      have OL81 := OL80.keep Kc81 (fun x hx => absurd hx List.not_mem_nil)
      have K81 := K80.trans Kc81 (fun x hx => absurd hx List.not_mem_nil)
      have Z81 : n0 ≤ T81.heap.size := Nat.le_trans Z80 Kc81.1
      have h82 : (0 : Int32) = (0 : Int32) := by decide
      obtain ⟨cq83, kq83, q83a, q83b, q83c⟩ := isOf hZ rfl c81_0
      obtain ⟨_, _, ⟨T83, L83, k83, n83⟩, -, X83, ⟨Lc83, hQ83, l83, y83, z83⟩, st83⟩ := X81.virtualBack hx (y := (⟨"com/example/apportion/apportion/AppendOnlyList$Prefix", "size", "()I"⟩ : MethodName)) (z := (⟨"com/example/apportion/apportion/AppendOnlyList$Prefix", "size", "()I"⟩ : MethodName)) hown (mvT hZ (hw _ (List.mem_of_getElem? (i := 32) rfl))) (mvT hZ (hw _ (List.mem_of_getElem? (i := 33) rfl))) (notFace_of_selects (args := #[]) (mvT hZ (hw _ (List.mem_of_getElem? (i := 35) rfl)))) (mvT hZ (hw _ (List.mem_of_getElem? (i := 35) rfl))) (mvT hZ (hw _ (List.mem_of_getElem? (i := 34) rfl))) (by decide) (backOf (W := 0) (rm5 l Z a0 hw [] r81 (2 : Int32) T81.heap n0 Z81 c81_2) hZ (hw _ (List.mem_of_getElem? (i := 36) rfl)) (hw _ (List.mem_of_getElem? (i := 21) rfl)) (by decide) (by decide)) q83a q83c (g := (mkF m 84 #[.val (.int p1), .val (.int p2), .val (.int p3), .val (.int p4), .val (.int p5), .val (.int (2 : Int32)), .val (.int (0 : Int32)), .val (.ref o73), .val (.ref r81), .unset] [(.ref r81)])) rfl (by rw [hml]; rfl) (Steps.refl _) (argsL := []) (rest := []) (lenOf pd_5 rfl) rfl (by show 2 * 0 + _ ≤ _; exact Nat.le_of_eq rfl) (hb hby at_84) (fun _ _ => ⟨rfl, rfl, (by decide : 6 + 0 ≤ _), (by decide : 4103 + 0 ≤ _)⟩)
      dsimp only [Pt.U, Pt.locs, Pt.cells, Pt.slots] at X83 l83 y83 z83 st83 hQ83
      subst l83 y83 z83
      obtain ⟨hv83, N83q, e83⟩ := hQ83
      rw [show f5 r81 (2 : Int32) = (2 : Int32) from rfl] at hv83
      subst hv83
      have N83 := Fr.app N81 N83q
      have h84 : (2 : Int32) = (2 : Int32) := by decide
      obtain ⟨cq85, kq85, q85a, q85b, q85c⟩ := isOf hZ e83 c81_0
      obtain ⟨_, _, ⟨T85, L85, k85, n85⟩, -, X85, ⟨Lc85, hQ85, l85, y85, z85⟩, st85⟩ := X83.virtualBack hx (y := (⟨"com/example/apportion/apportion/AppendOnlyList$Prefix", "iterator", "()Ljava/util/Iterator;"⟩ : MethodName)) (z := (⟨"com/example/apportion/apportion/AppendOnlyList$Prefix", "iterator", "()Ljava/util/Iterator;"⟩ : MethodName)) hown (mvT hZ (hw _ (List.mem_of_getElem? (i := 37) rfl))) (mvT hZ (hw _ (List.mem_of_getElem? (i := 38) rfl))) (notFace_of_selects (args := #[]) (mvT hZ (hw _ (List.mem_of_getElem? (i := 40) rfl)))) (mvT hZ (hw _ (List.mem_of_getElem? (i := 40) rfl))) (mvT hZ (hw _ (List.mem_of_getElem? (i := 39) rfl))) (by decide) (backOf (W := 0) (rm6 l Z a0 hw [] r81 T81.heap n0 Z81) hZ (hw _ (List.mem_of_getElem? (i := 41) rfl)) (hw _ (List.mem_of_getElem? (i := 21) rfl)) (by decide) (by decide)) q85a q85c (g := (mkF m 96 #[.val (.int p1), .val (.int p2), .val (.int p3), .val (.int p4), .val (.int p5), .val (.int (2 : Int32)), .val (.int (0 : Int32)), .val (.ref o73), .val (.ref r81), .unset] [(.ref r81)])) rfl (by rw [hml]; rfl) (Steps.refl _) (argsL := []) (rest := []) (lenOf pd_6 rfl) rfl (by show 2 * 0 + _ ≤ _; exact Nat.le_of_eq rfl) (hb hby at_96) (fun _ _ => ⟨rfl, e83, (by decide : 6 + 1 ≤ _), (by decide : 4103 + 2 ≤ _)⟩)
      dsimp only [Pt.U, Pt.locs, Pt.cells, Pt.slots] at X85 l85 y85 z85 st85 hQ85
      subst l85 y85 z85
      obtain ⟨r85, rfl, N85q, Kc85, fr85_r, c85_0, c85_1, c85_2⟩ := hQ85
      have N85 := Fr.app N83 N85q
      have ne85_r_1 : o73 ≠ r85 := Nat.ne_of_lt (Nat.lt_of_lt_of_le u81_0.lt fr85_r)
      have ne85_r_2 : t174 ≠ r85 := Nat.ne_of_lt (Nat.lt_of_lt_of_le u81_1.lt fr85_r)
      have ne85_r_3 : r76 ≠ r85 := Nat.ne_of_lt (Nat.lt_of_lt_of_le u81_2.lt fr85_r)
      have ne85_r_4 : t277 ≠ r85 := Nat.ne_of_lt (Nat.lt_of_lt_of_le u81_5.lt fr85_r)
      have ne85_r_5 : r79 ≠ r85 := Nat.ne_of_lt (Nat.lt_of_lt_of_le u81_6.lt fr85_r)
      have ne85_r_6 : r81 ≠ r85 := Nat.ne_of_lt (Nat.lt_of_lt_of_le c81_0.lt fr85_r)
      have ge85_r : n0 ≤ r85 := Nat.le_trans Z81 fr85_r
      have sz85_r : h0.size ≤ r85 := Nat.le_trans K81.1 fr85_r
      have u85_0 := u81_0.keep Kc85
      have u85_1 := u81_1.keep Kc85
      have u85_2 := u81_2.keep Kc85
      have u85_3 := u81_3.keep Kc85 (List.not_mem_nil)
      have u85_4 := u81_4.keep Kc85 (List.not_mem_nil)
      have u85_5 := u81_5.keep Kc85
      have u85_6 := u81_6.keep Kc85
      have u85_7 := u81_7.keep Kc85 (List.not_mem_nil)
      have u85_8 := u81_8.keep Kc85 (List.not_mem_nil)
      have u85_9 := u81_9.keep Kc85 (List.not_mem_nil)
      have u85_10 := u81_10.keep Kc85 (List.not_mem_nil)
      have u85_11 := c81_0.keep Kc85
      have u85_12 := c81_1.keep Kc85 (List.not_mem_nil)
      have u85_13 := c81_2.keep Kc85 (List.not_mem_nil)
      have OL85 := OL81.keep Kc85 (fun x hx => absurd hx List.not_mem_nil)
      have K85 := K81.trans Kc85 (fun x hx => absurd hx List.not_mem_nil)
      have Z85 : n0 ≤ T85.heap.size := Nat.le_trans Z81 Kc85.1
      have h86 : ¬ ((2 : Int32) < (1 : Int32)) := by decide
      obtain ⟨cq87, kq87, q87a, q87b, q87c⟩ := isOf hZ rfl c85_0
      obtain ⟨_, _, ⟨T87, L87, k87, n87⟩, -, X87, ⟨Lc87, hQ87, l87, y87, z87⟩, st87⟩ := X85.interfaceBack hx (xi := (⟨"java/util/Iterator", "next", "()Ljava/lang/Object;"⟩ : MethodName)) (y := (⟨"com/example/apportion/apportion/AppendOnlyList$Prefix$1", "next", "()Ljava/lang/Object;"⟩ : MethodName)) hown (mvT hZ (hw _ (List.mem_of_getElem? (i := 94) rfl))) (mvT hZ (hw _ (List.mem_of_getElem? (i := 95) rfl))) (mvT hZ (hw _ (List.mem_of_getElem? (i := 96) rfl))) (mvT hZ (hw _ (List.mem_of_getElem? (i := 97) rfl))) (mvT hZ (hw _ (List.mem_of_getElem? (i := 98) rfl))) (mvT hZ (hw _ (List.mem_of_getElem? (i := 99) rfl))) (mvT hZ (hw _ (List.mem_of_getElem? (i := 100) rfl))) (mvT hZ (hw _ (List.mem_of_getElem? (i := 58) rfl))) (by decide) (backOf (W := 0) (rmnx02 l Z a0 hw [] r85 r81 t174 k_t174 t277 k_t277 r76 (.ref r79) .null T85.heap n0 Z85 c85_0 ge85_r c85_1 c85_2 u85_11 u85_13 u85_12 u85_4 u85_1 u85_8 u85_5) hZ (hw _ (List.mem_of_getElem? (i := 101) rfl)) (hw _ (List.mem_of_getElem? (i := 44) rfl)) (by decide) (by decide)) q87a q87b q87c (g := (mkF m 109 #[.val (.int p1), .val (.int p2), .val (.int p3), .val (.int p4), .val (.int p5), .val (.int (2 : Int32)), .val (.int (0 : Int32)), .val (.ref o73), .val (.ref r81), .val (.ref r85)] [(.ref r85)])) rfl (by rw [hml]; rfl) (Steps.refl _) (argsL := []) (rest := []) (lenOf pd_10 rfl) rfl (by show 2 * 0 + _ ≤ _; exact Nat.le_of_eq rfl) (hb hby at_109) (fun _ _ => ⟨rfl, rfl, (by decide : 7 + 0 ≤ _), (by decide : 4105 + 0 ≤ _)⟩)
      dsimp only [Pt.U, Pt.locs, Pt.cells, Pt.slots] at X87 l87 y87 z87 st87 hQ87
      subst l87 y87 z87
      obtain ⟨rfl, N87q, Kc87, c87_0, c87_1, c87_2⟩ := hQ87
      have N87 := Fr.app N85 N87q
      have u87_0 := u85_0.keep Kc87
      have u87_1 := u85_1.keep Kc87
      have u87_2 := u85_2.keep Kc87
      have u87_3 := u85_3.keep Kc87 (by simp only [List.mem_cons, List.not_mem_nil, or_false, not_or]; exact ne85_r_3)
      have u87_4 := u85_4.keep Kc87 (by simp only [List.mem_cons, List.not_mem_nil, or_false, not_or]; exact ne85_r_2)
      have u87_5 := u85_5.keep Kc87
      have u87_6 := u85_6.keep Kc87
      have u87_7 := u85_7.keep Kc87 (by simp only [List.mem_cons, List.not_mem_nil, or_false, not_or]; exact ne85_r_5)
      have u87_8 := u85_8.keep Kc87 (by simp only [List.mem_cons, List.not_mem_nil, or_false, not_or]; exact ne85_r_4)
      have u87_9 := u85_9.keep Kc87 (by simp only [List.mem_cons, List.not_mem_nil, or_false, not_or]; exact ne85_r_1)
      have u87_10 := u85_10.keep Kc87 (by simp only [List.mem_cons, List.not_mem_nil, or_false, not_or]; exact ne85_r_1)
      have u87_11 := u85_11.keep Kc87
      have u87_12 := u85_12.keep Kc87 (by simp only [List.mem_cons, List.not_mem_nil, or_false, not_or]; exact ne85_r_6)
      have u87_13 := u85_13.keep Kc87 (by simp only [List.mem_cons, List.not_mem_nil, or_false, not_or]; exact ne85_r_6)
      have u87_14 := c85_0.keep Kc87
      have OL87 := OL85.keep Kc87 (fun x hx => by cases List.mem_singleton.mp hx; exact ge85_r)
      have K87 := K85.trans Kc87 (fun x hx => by cases List.mem_singleton.mp hx; exact Or.inr sz85_r)
      have Z87 : n0 ≤ T87.heap.size := Nat.le_trans Z85 Kc87.1
      obtain ⟨T88, X88, e88, st88⟩ := castY X87 hx hZ hown (hw _ (List.mem_of_getElem? (i := 103) rfl)) rfl (Ins.self u87_2) (g := (mkF m 114 #[.val (.int p1), .val (.int p2), .val (.int p3), .val (.int p4), .val (.int p5), .val (.int (2 : Int32)), .val (.int (0 : Int32)), .val (.ref o73), .val (.ref r81), .val (.ref r85)] [(.ref r76)])) rfl rfl (hb hby at_114)
      obtain ⟨cq89, kq89, q89a, q89b, q89c⟩ := isOf hZ e88 u87_2
      obtain ⟨_, _, ⟨T89, L89, k89, n89⟩, -, X89, ⟨Lc89, hQ89, l89, y89, z89⟩, st89⟩ := X88.virtualBack hx (y := (⟨"java/lang/Integer", "intValue", "()I"⟩ : MethodName)) (z := (⟨"java/lang/Integer", "intValue", "()I"⟩ : MethodName)) hown (mvT hZ (hw _ (List.mem_of_getElem? (i := 104) rfl))) (mvT hZ (hw _ (List.mem_of_getElem? (i := 105) rfl))) (notFace_of_selects (args := #[]) (mvT hZ (hw _ (List.mem_of_getElem? (i := 107) rfl)))) (mvT hZ (hw _ (List.mem_of_getElem? (i := 107) rfl))) (mvT hZ (hw _ (List.mem_of_getElem? (i := 106) rfl))) (by decide) (backOf (W := 0) (rm14 l Z a0 hw [] r76 p2 T87.heap n0 Z87 u87_3) hZ (hw _ (List.mem_of_getElem? (i := 108) rfl)) (hw _ (List.mem_of_getElem? (i := 65) rfl)) (by decide) (by decide)) q89a q89c (g := (mkF m 117 #[.val (.int p1), .val (.int p2), .val (.int p3), .val (.int p4), .val (.int p5), .val (.int (2 : Int32)), .val (.int (0 : Int32)), .val (.ref o73), .val (.ref r81), .val (.ref r85)] [(.ref r76)])) rfl (by rw [hml]; rfl) (Steps.refl _) (argsL := []) (rest := []) (lenOf pd_5 rfl) rfl (by show 2 * 0 + _ ≤ _; exact Nat.le_of_eq rfl) (hb hby at_117) (fun _ _ => ⟨rfl, e88, (by decide : 7 + 0 ≤ _), (by decide : 4105 + 0 ≤ _)⟩)
      dsimp only [Pt.U, Pt.locs, Pt.cells, Pt.slots] at X89 l89 y89 z89 st89 hQ89
      subst l89 y89 z89
      obtain ⟨hv89, N89q, e89⟩ := hQ89
      rw [show f14 r76 p2 = p2 from rfl] at hv89
      subst hv89
      have N89 := Fr.app N87 N89q
      have h90 : p2 = p2 := rfl
      have h91 : ¬ ((2 : Int32) < (2 : Int32)) := by decide
      obtain ⟨cq92, kq92, q92a, q92b, q92c⟩ := isOf hZ e89 c87_0
      obtain ⟨_, _, ⟨T92, L92, k92, n92⟩, -, X92, ⟨Lc92, hQ92, l92, y92, z92⟩, st92⟩ := X89.interfaceBack hx (xi := (⟨"java/util/Iterator", "next", "()Ljava/lang/Object;"⟩ : MethodName)) (y := (⟨"com/example/apportion/apportion/AppendOnlyList$Prefix$1", "next", "()Ljava/lang/Object;"⟩ : MethodName)) hown (mvT hZ (hw _ (List.mem_of_getElem? (i := 94) rfl))) (mvT hZ (hw _ (List.mem_of_getElem? (i := 95) rfl))) (mvT hZ (hw _ (List.mem_of_getElem? (i := 96) rfl))) (mvT hZ (hw _ (List.mem_of_getElem? (i := 97) rfl))) (mvT hZ (hw _ (List.mem_of_getElem? (i := 98) rfl))) (mvT hZ (hw _ (List.mem_of_getElem? (i := 99) rfl))) (mvT hZ (hw _ (List.mem_of_getElem? (i := 100) rfl))) (mvT hZ (hw _ (List.mem_of_getElem? (i := 58) rfl))) (by decide) (backOf (W := 0) (rmnx12 l Z a0 hw [] r85 r81 t174 k_t174 t277 k_t277 r79 (.ref r76) .null T87.heap n0 Z87 c87_0 ge85_r c87_1 c87_2 u87_11 u87_13 u87_12 u87_4 u87_1 u87_8 u87_5) hZ (hw _ (List.mem_of_getElem? (i := 101) rfl)) (hw _ (List.mem_of_getElem? (i := 44) rfl)) (by decide) (by decide)) q92a q92b q92c (g := (mkF m 134 #[.val (.int p1), .val (.int p2), .val (.int p3), .val (.int p4), .val (.int p5), .val (.int (2 : Int32)), .val (.int (0 : Int32)), .val (.ref o73), .val (.ref r81), .val (.ref r85)] [(.ref r85)])) rfl (by rw [hml]; rfl) (Steps.refl _) (argsL := []) (rest := []) (lenOf pd_10 rfl) rfl (by show 2 * 0 + _ ≤ _; exact Nat.le_of_eq rfl) (hb hby at_134) (fun _ _ => ⟨rfl, e89, (by decide : 7 + 0 ≤ _), (by decide : 4105 + 0 ≤ _)⟩)
      dsimp only [Pt.U, Pt.locs, Pt.cells, Pt.slots] at X92 l92 y92 z92 st92 hQ92
      subst l92 y92 z92
      obtain ⟨rfl, N92q, Kc92, c92_0, c92_1, c92_2⟩ := hQ92
      have N92 := Fr.app N89 N92q
      have u92_0 := u87_0.keep Kc92
      have u92_1 := u87_1.keep Kc92
      have u92_2 := u87_2.keep Kc92
      have u92_3 := u87_3.keep Kc92 (by simp only [List.mem_cons, List.not_mem_nil, or_false, not_or]; exact ne85_r_3)
      have u92_4 := u87_4.keep Kc92 (by simp only [List.mem_cons, List.not_mem_nil, or_false, not_or]; exact ne85_r_2)
      have u92_5 := u87_5.keep Kc92
      have u92_6 := u87_6.keep Kc92
      have u92_7 := u87_7.keep Kc92 (by simp only [List.mem_cons, List.not_mem_nil, or_false, not_or]; exact ne85_r_5)
      have u92_8 := u87_8.keep Kc92 (by simp only [List.mem_cons, List.not_mem_nil, or_false, not_or]; exact ne85_r_4)
      have u92_9 := u87_9.keep Kc92 (by simp only [List.mem_cons, List.not_mem_nil, or_false, not_or]; exact ne85_r_1)
      have u92_10 := u87_10.keep Kc92 (by simp only [List.mem_cons, List.not_mem_nil, or_false, not_or]; exact ne85_r_1)
      have u92_11 := u87_11.keep Kc92
      have u92_12 := u87_12.keep Kc92 (by simp only [List.mem_cons, List.not_mem_nil, or_false, not_or]; exact ne85_r_6)
      have u92_13 := u87_13.keep Kc92 (by simp only [List.mem_cons, List.not_mem_nil, or_false, not_or]; exact ne85_r_6)
      have u92_14 := c87_0.keep Kc92
      have OL92 := OL87.keep Kc92 (fun x hx => by cases List.mem_singleton.mp hx; exact ge85_r)
      have K92 := K87.trans Kc92 (fun x hx => by cases List.mem_singleton.mp hx; exact Or.inr sz85_r)
      have Z92 : n0 ≤ T92.heap.size := Nat.le_trans Z87 Kc92.1
      obtain ⟨T93, X93, e93, st93⟩ := castY X92 hx hZ hown (hw _ (List.mem_of_getElem? (i := 103) rfl)) rfl (Ins.self u92_6) (g := (mkF m 139 #[.val (.int p1), .val (.int p2), .val (.int p3), .val (.int p4), .val (.int p5), .val (.int (2 : Int32)), .val (.int (0 : Int32)), .val (.ref o73), .val (.ref r81), .val (.ref r85)] [(.ref r79)])) rfl rfl (hb hby at_139)
      obtain ⟨cq94, kq94, q94a, q94b, q94c⟩ := isOf hZ e93 u92_6
      obtain ⟨_, _, ⟨T94, L94, k94, n94⟩, -, X94, ⟨Lc94, hQ94, l94, y94, z94⟩, st94⟩ := X93.virtualBack hx (y := (⟨"java/lang/Integer", "intValue", "()I"⟩ : MethodName)) (z := (⟨"java/lang/Integer", "intValue", "()I"⟩ : MethodName)) hown (mvT hZ (hw _ (List.mem_of_getElem? (i := 104) rfl))) (mvT hZ (hw _ (List.mem_of_getElem? (i := 105) rfl))) (notFace_of_selects (args := #[]) (mvT hZ (hw _ (List.mem_of_getElem? (i := 107) rfl)))) (mvT hZ (hw _ (List.mem_of_getElem? (i := 107) rfl))) (mvT hZ (hw _ (List.mem_of_getElem? (i := 106) rfl))) (by decide) (backOf (W := 0) (rm14 l Z a0 hw [] r79 p3 T92.heap n0 Z92 u92_7) hZ (hw _ (List.mem_of_getElem? (i := 108) rfl)) (hw _ (List.mem_of_getElem? (i := 65) rfl)) (by decide) (by decide)) q94a q94c (g := (mkF m 142 #[.val (.int p1), .val (.int p2), .val (.int p3), .val (.int p4), .val (.int p5), .val (.int (2 : Int32)), .val (.int (0 : Int32)), .val (.ref o73), .val (.ref r81), .val (.ref r85)] [(.ref r79)])) rfl (by rw [hml]; rfl) (Steps.refl _) (argsL := []) (rest := []) (lenOf pd_5 rfl) rfl (by show 2 * 0 + _ ≤ _; exact Nat.le_of_eq rfl) (hb hby at_142) (fun _ _ => ⟨rfl, e93, (by decide : 7 + 0 ≤ _), (by decide : 4105 + 0 ≤ _)⟩)
      dsimp only [Pt.U, Pt.locs, Pt.cells, Pt.slots] at X94 l94 y94 z94 st94 hQ94
      subst l94 y94 z94
      obtain ⟨hv94, N94q, e94⟩ := hQ94
      rw [show f14 r79 p3 = p3 from rfl] at hv94
      subst hv94
      have N94 := Fr.app N92 N94q
      have h95 : p3 = p3 := rfl
      obtain ⟨cq96, kq96, q96a, q96b, q96c⟩ := isOf hZ e94 c92_0
      obtain ⟨_, _, ⟨T96, L96, k96, n96⟩, -, X96, ⟨Lc96, hQ96, l96, y96, z96⟩, st96⟩ := X94.interfaceBack hx (xi := (⟨"java/util/Iterator", "hasNext", "()Z"⟩ : MethodName)) (y := (⟨"com/example/apportion/apportion/AppendOnlyList$Prefix$1", "hasNext", "()Z"⟩ : MethodName)) hown (mvT hZ (hw _ (List.mem_of_getElem? (i := 51) rfl))) (mvT hZ (hw _ (List.mem_of_getElem? (i := 52) rfl))) (mvT hZ (hw _ (List.mem_of_getElem? (i := 53) rfl))) (mvT hZ (hw _ (List.mem_of_getElem? (i := 54) rfl))) (mvT hZ (hw _ (List.mem_of_getElem? (i := 55) rfl))) (mvT hZ (hw _ (List.mem_of_getElem? (i := 56) rfl))) (mvT hZ (hw _ (List.mem_of_getElem? (i := 57) rfl))) (mvT hZ (hw _ (List.mem_of_getElem? (i := 58) rfl))) (by decide) (backOf (W := 0) (rm8 l Z a0 hw [] r85 (2 : Int32) r81 (2 : Int32) T92.heap n0 Z92 c92_1 c92_2 u92_13) hZ (hw _ (List.mem_of_getElem? (i := 59) rfl)) (hw _ (List.mem_of_getElem? (i := 44) rfl)) (by decide) (by decide)) q96a q96b q96c (g := (mkF m 153 #[.val (.int p1), .val (.int p2), .val (.int p3), .val (.int p4), .val (.int p5), .val (.int (2 : Int32)), .val (.int (0 : Int32)), .val (.ref o73), .val (.ref r81), .val (.ref r85)] [(.ref r85)])) rfl (by rw [hml]; rfl) (Steps.refl _) (argsL := []) (rest := []) (lenOf pd_7 rfl) rfl (by show 2 * 0 + _ ≤ _; exact Nat.le_of_eq rfl) (hb hby at_153) (fun _ _ => ⟨rfl, e94, (by decide : 7 + 0 ≤ _), (by decide : 4105 + 0 ≤ _)⟩)
      dsimp only [Pt.U, Pt.locs, Pt.cells, Pt.slots] at X96 l96 y96 z96 st96 hQ96
      subst l96 y96 z96
      obtain ⟨hv96, N96q, e96⟩ := hQ96
      rw [show f8 r85 (2 : Int32) r81 (2 : Int32) = (0 : Int32) from if_neg (by decide)] at hv96
      subst hv96
      have N96 := Fr.app N94 N96q
      have h97 : (0 : Int32) = (0 : Int32) := by decide
      obtain ⟨fs, hr, hrun, hended, hW, hsame⟩ := X96.leave (v := some (.int (1 : Int32))) (fun h => by rw [Bd.returns] at h; cases h)
      refine ⟨_, _, ?_, hrun, hended, _, _, rfl, ?_, ⟨_, rfl⟩, hW, hsame.mono (by decide) (by decide)⟩
      · show Steps p.tables e below (s₁.setTop (mkF m 12 #[.val (.int p1), .val (.int p2), .val (.int p3), .val (.int p4), .val (.int p5), .val (.int (2 : Int32)), .unset, .unset, .unset, .unset] [(.int (p5 &&& (1 : Int32)))])) _
        refine XS.ifYes X0.here hx rfl (pc0 := 12) (pc' := 19) rfl (hb hby at_12) rfl ((if0 _ _).trans (teq h72).1) (by decide) (by decide) ?_
        show Steps p.tables e below (s₁.setTop (mkF m 19 #[.val (.int p1), .val (.int p2), .val (.int p3), .val (.int p4), .val (.int p5), .val (.int (2 : Int32)), .unset, .unset, .unset, .unset] [])) _
        refine XS.iconst X0.here hx rfl (hb hby at_19) ?_
        show Steps p.tables e below (s₁.setTop (mkF m 20 #[.val (.int p1), .val (.int p2), .val (.int p3), .val (.int p4), .val (.int p5), .val (.int (2 : Int32)), .unset, .unset, .unset, .unset] [(.int (0 : Int32))])) _
        refine XS.istore X0.here hx rfl (hb hby at_20) rfl (l' := #[.val (.int p1), .val (.int p2), .val (.int p3), .val (.int p4), .val (.int p5), .val (.int (2 : Int32)), .val (.int (0 : Int32)), .unset, .unset, .unset]) rfl ?_
        show Steps p.tables e below (s₁.setTop (mkF m 22 #[.val (.int p1), .val (.int p2), .val (.int p3), .val (.int p4), .val (.int p5), .val (.int (2 : Int32)), .val (.int (0 : Int32)), .unset, .unset, .unset] [])) _
        refine st73 _ ?_
        show Steps p.tables e below (T73.setTop (mkF m 25 #[.val (.int p1), .val (.int p2), .val (.int p3), .val (.int p4), .val (.int p5), .val (.int (2 : Int32)), .val (.int (0 : Int32)), .unset, .unset, .unset] [(.ref o73)])) _
        refine XS.dup X73.here hx rfl (hb hby at_25) rfl rfl ?_
        show Steps p.tables e below (T73.setTop (mkF m 26 #[.val (.int p1), .val (.int p2), .val (.int p3), .val (.int p4), .val (.int p5), .val (.int (2 : Int32)), .val (.int (0 : Int32)), .unset, .unset, .unset] [(.ref o73), (.ref o73)])) _
        refine st74.trans ?_
        show Steps p.tables e below (T74.setTop (mkF m 29 #[.val (.int p1), .val (.int p2), .val (.int p3), .val (.int p4), .val (.int p5), .val (.int (2 : Int32)), .val (.int (0 : Int32)), .unset, .unset, .unset] [(.ref o73)])) _
        refine XS.astore X74.here hx rfl (hb hby at_29) rfl rfl (l' := #[.val (.int p1), .val (.int p2), .val (.int p3), .val (.int p4), .val (.int p5), .val (.int (2 : Int32)), .val (.int (0 : Int32)), .val (.ref o73), .unset, .unset]) rfl ?_
        show Steps p.tables e below (T74.setTop (mkF m 31 #[.val (.int p1), .val (.int p2), .val (.int p3), .val (.int p4), .val (.int p5), .val (.int (2 : Int32)), .val (.int (0 : Int32)), .val (.ref o73), .unset, .unset] [])) _
        refine XS.iload X74.here hx rfl (hb hby at_31) rfl ?_
        show Steps p.tables e below (T74.setTop (mkF m 33 #[.val (.int p1), .val (.int p2), .val (.int p3), .val (.int p4), .val (.int p5), .val (.int (2 : Int32)), .val (.int (0 : Int32)), .val (.ref o73), .unset, .unset] [(.int (2 : Int32))])) _
        refine XS.iconst X74.here hx rfl (hb hby at_33) ?_
        show Steps p.tables e below (T74.setTop (mkF m 34 #[.val (.int p1), .val (.int p2), .val (.int p3), .val (.int p4), .val (.int p5), .val (.int (2 : Int32)), .val (.int (0 : Int32)), .val (.ref o73), .unset, .unset] [(.int (1 : Int32)), (.int (2 : Int32))])) _
        refine XS.icmpNo X74.here hx rfl (hb hby at_34) rfl (flt h75).1 ?_
        show Steps p.tables e below (T74.setTop (mkF m 37 #[.val (.int p1), .val (.int p2), .val (.int p3), .val (.int p4), .val (.int p5), .val (.int (2 : Int32)), .val (.int (0 : Int32)), .val (.ref o73), .unset, .unset] [])) _
        refine XS.aload X74.here hx rfl (hb hby at_37) rfl rfl ?_
        show Steps p.tables e below (T74.setTop (mkF m 39 #[.val (.int p1), .val (.int p2), .val (.int p3), .val (.int p4), .val (.int p5), .val (.int (2 : Int32)), .val (.int (0 : Int32)), .val (.ref o73), .unset, .unset] [(.ref o73)])) _
        refine XS.iloadN X74.here hx rfl (hb hby at_39) rfl ?_
        show Steps p.tables e below (T74.setTop (mkF m 40 #[.val (.int p1), .val (.int p2), .val (.int p3), .val (.int p4), .val (.int p5), .val (.int (2 : Int32)), .val (.int (0 : Int32)), .val (.ref o73), .unset, .unset] [(.int p2), (.ref o73)])) _
        refine st76 _ ?_
        show Steps p.tables e below (T76.setTop (mkF m 43 #[.val (.int p1), .val (.int p2), .val (.int p3), .val (.int p4), .val (.int p5), .val (.int (2 : Int32)), .val (.int (0 : Int32)), .val (.ref o73), .unset, .unset] [(.ref r76), (.ref o73)])) _
        refine st77.trans ?_
        show Steps p.tables e below (T77.setTop (mkF m 46 #[.val (.int p1), .val (.int p2), .val (.int p3), .val (.int p4), .val (.int p5), .val (.int (2 : Int32)), .val (.int (0 : Int32)), .val (.ref o73), .unset, .unset] [])) _
        refine XS.iload X77.here hx rfl (hb hby at_46) rfl ?_
        show Steps p.tables e below (T77.setTop (mkF m 48 #[.val (.int p1), .val (.int p2), .val (.int p3), .val (.int p4), .val (.int p5), .val (.int (2 : Int32)), .val (.int (0 : Int32)), .val (.ref o73), .unset, .unset] [(.int (2 : Int32))])) _
        refine XS.iconst X77.here hx rfl (hb hby at_48) ?_
        show Steps p.tables e below (T77.setTop (mkF m 49 #[.val (.int p1), .val (.int p2), .val (.int p3), .val (.int p4), .val (.int p5), .val (.int (2 : Int32)), .val (.int (0 : Int32)), .val (.ref o73), .unset, .unset] [(.int (2 : Int32)), (.int (2 : Int32))])) _
        refine XS.icmpNo X77.here hx rfl (hb hby at_49) rfl (flt h78).1 ?_
        show Steps p.tables e below (T77.setTop (mkF m 52 #[.val (.int p1), .val (.int p2), .val (.int p3), .val (.int p4), .val (.int p5), .val (.int (2 : Int32)), .val (.int (0 : Int32)), .val (.ref o73), .unset, .unset] [])) _
        refine XS.aload X77.here hx rfl (hb hby at_52) rfl rfl ?_
        show Steps p.tables e below (T77.setTop (mkF m 54 #[.val (.int p1), .val (.int p2), .val (.int p3), .val (.int p4), .val (.int p5), .val (.int (2 : Int32)), .val (.int (0 : Int32)), .val (.ref o73), .unset, .unset] [(.ref o73)])) _
        refine XS.iloadN X77.here hx rfl (hb hby at_54) rfl ?_
        show Steps p.tables e below (T77.setTop (mkF m 55 #[.val (.int p1), .val (.int p2), .val (.int p3), .val (.int p4), .val (.int p5), .val (.int (2 : Int32)), .val (.int (0 : Int32)), .val (.ref o73), .unset, .unset] [(.int p3), (.ref o73)])) _
        refine st79 _ ?_
        show Steps p.tables e below (T79.setTop (mkF m 58 #[.val (.int p1), .val (.int p2), .val (.int p3), .val (.int p4), .val (.int p5), .val (.int (2 : Int32)), .val (.int (0 : Int32)), .val (.ref o73), .unset, .unset] [(.ref r79), (.ref o73)])) _
        refine st80.trans ?_
        show Steps p.tables e below (T80.setTop (mkF m 61 #[.val (.int p1), .val (.int p2), .val (.int p3), .val (.int p4), .val (.int p5), .val (.int (2 : Int32)), .val (.int (0 : Int32)), .val (.ref o73), .unset, .unset] [])) _
        refine XS.aload X80.here hx rfl (hb hby at_61) rfl rfl ?_
        show Steps p.tables e below (T80.setTop (mkF m 63 #[.val (.int p1), .val (.int p2), .val (.int p3), .val (.int p4), .val (.int p5), .val (.int (2 : Int32)), .val (.int (0 : Int32)), .val (.ref o73), .unset, .unset] [(.ref o73)])) _
        refine st81.trans ?_
        show Steps p.tables e below (T81.setTop (mkF m 66 #[.val (.int p1), .val (.int p2), .val (.int p3), .val (.int p4), .val (.int p5), .val (.int (2 : Int32)), .val (.int (0 : Int32)), .val (.ref o73), .unset, .unset] [(.ref r81)])) _
        refine XS.astore X81.here hx rfl (hb hby at_66) rfl rfl (l' := #[.val (.int p1), .val (.int p2), .val (.int p3), .val (.int p4), .val (.int p5), .val (.int (2 : Int32)), .val (.int (0 : Int32)), .val (.ref o73), .val (.ref r81), .unset]) rfl ?_
        show Steps p.tables e below (T81.setTop (mkF m 68 #[.val (.int p1), .val (.int p2), .val (.int p3), .val (.int p4), .val (.int p5), .val (.int (2 : Int32)), .val (.int (0 : Int32)), .val (.ref o73), .val (.ref r81), .unset] [])) _
        refine XS.iload X81.here hx rfl (hb hby at_68) rfl ?_
        show Steps p.tables e below (T81.setTop (mkF m 70 #[.val (.int p1), .val (.int p2), .val (.int p3), .val (.int p4), .val (.int p5), .val (.int (2 : Int32)), .val (.int (0 : Int32)), .val (.ref o73), .val (.ref r81), .unset] [(.int (0 : Int32))])) _
        refine XS.ifYes X81.here hx rfl (pc0 := 70) (pc' := 82) rfl (hb hby at_70) rfl ((if0 _ _).trans (teq h82).1) (by decide) (by decide) ?_
        show Steps p.tables e below (T81.setTop (mkF m 82 #[.val (.int p1), .val (.int p2), .val (.int p3), .val (.int p4), .val (.int p5), .val (.int (2 : Int32)), .val (.int (0 : Int32)), .val (.ref o73), .val (.ref r81), .unset] [])) _
        refine XS.aload X81.here hx rfl (hb hby at_82) rfl rfl ?_
        show Steps p.tables e below (T81.setTop (mkF m 84 #[.val (.int p1), .val (.int p2), .val (.int p3), .val (.int p4), .val (.int p5), .val (.int (2 : Int32)), .val (.int (0 : Int32)), .val (.ref o73), .val (.ref r81), .unset] [(.ref r81)])) _
        refine st83.trans ?_
        show Steps p.tables e below (T83.setTop (mkF m 87 #[.val (.int p1), .val (.int p2), .val (.int p3), .val (.int p4), .val (.int p5), .val (.int (2 : Int32)), .val (.int (0 : Int32)), .val (.ref o73), .val (.ref r81), .unset] [(.int (2 : Int32))])) _
        refine XS.iload X83.here hx rfl (hb hby at_87) rfl ?_
        show Steps p.tables e below (T83.setTop (mkF m 89 #[.val (.int p1), .val (.int p2), .val (.int p3), .val (.int p4), .val (.int p5), .val (.int (2 : Int32)), .val (.int (0 : Int32)), .val (.ref o73), .val (.ref r81), .unset] [(.int (2 : Int32)), (.int (2 : Int32))])) _
        refine XS.icmpYes X83.here hx rfl (pc0 := 89) (pc' := 94) rfl (hb hby at_89) rfl (teq h84).1 (by decide) (by decide) ?_
        show Steps p.tables e below (T83.setTop (mkF m 94 #[.val (.int p1), .val (.int p2), .val (.int p3), .val (.int p4), .val (.int p5), .val (.int (2 : Int32)), .val (.int (0 : Int32)), .val (.ref o73), .val (.ref r81), .unset] [])) _
        refine XS.aload X83.here hx rfl (hb hby at_94) rfl rfl ?_
        show Steps p.tables e below (T83.setTop (mkF m 96 #[.val (.int p1), .val (.int p2), .val (.int p3), .val (.int p4), .val (.int p5), .val (.int (2 : Int32)), .val (.int (0 : Int32)), .val (.ref o73), .val (.ref r81), .unset] [(.ref r81)])) _
        refine st85.trans ?_
        show Steps p.tables e below (T85.setTop (mkF m 99 #[.val (.int p1), .val (.int p2), .val (.int p3), .val (.int p4), .val (.int p5), .val (.int (2 : Int32)), .val (.int (0 : Int32)), .val (.ref o73), .val (.ref r81), .unset] [(.ref r85)])) _
        refine XS.astore X85.here hx rfl (hb hby at_99) rfl rfl (l' := #[.val (.int p1), .val (.int p2), .val (.int p3), .val (.int p4), .val (.int p5), .val (.int (2 : Int32)), .val (.int (0 : Int32)), .val (.ref o73), .val (.ref r81), .val (.ref r85)]) rfl ?_
        show Steps p.tables e below (T85.setTop (mkF m 101 #[.val (.int p1), .val (.int p2), .val (.int p3), .val (.int p4), .val (.int p5), .val (.int (2 : Int32)), .val (.int (0 : Int32)), .val (.ref o73), .val (.ref r81), .val (.ref r85)] [])) _
        refine XS.iload X85.here hx rfl (hb hby at_101) rfl ?_
        show Steps p.tables e below (T85.setTop (mkF m 103 #[.val (.int p1), .val (.int p2), .val (.int p3), .val (.int p4), .val (.int p5), .val (.int (2 : Int32)), .val (.int (0 : Int32)), .val (.ref o73), .val (.ref r81), .val (.ref r85)] [(.int (2 : Int32))])) _
        refine XS.iconst X85.here hx rfl (hb hby at_103) ?_
        show Steps p.tables e below (T85.setTop (mkF m 104 #[.val (.int p1), .val (.int p2), .val (.int p3), .val (.int p4), .val (.int p5), .val (.int (2 : Int32)), .val (.int (0 : Int32)), .val (.ref o73), .val (.ref r81), .val (.ref r85)] [(.int (1 : Int32)), (.int (2 : Int32))])) _
        refine XS.icmpNo X85.here hx rfl (hb hby at_104) rfl (flt h86).1 ?_
        show Steps p.tables e below (T85.setTop (mkF m 107 #[.val (.int p1), .val (.int p2), .val (.int p3), .val (.int p4), .val (.int p5), .val (.int (2 : Int32)), .val (.int (0 : Int32)), .val (.ref o73), .val (.ref r81), .val (.ref r85)] [])) _
        refine XS.aload X85.here hx rfl (hb hby at_107) rfl rfl ?_
        show Steps p.tables e below (T85.setTop (mkF m 109 #[.val (.int p1), .val (.int p2), .val (.int p3), .val (.int p4), .val (.int p5), .val (.int (2 : Int32)), .val (.int (0 : Int32)), .val (.ref o73), .val (.ref r81), .val (.ref r85)] [(.ref r85)])) _
        refine st87.trans ?_
        show Steps p.tables e below (T87.setTop (mkF m 114 #[.val (.int p1), .val (.int p2), .val (.int p3), .val (.int p4), .val (.int p5), .val (.int (2 : Int32)), .val (.int (0 : Int32)), .val (.ref o73), .val (.ref r81), .val (.ref r85)] [(.ref r76)])) _
        refine st88 _ ?_
        show Steps p.tables e below (T88.setTop (mkF m 117 #[.val (.int p1), .val (.int p2), .val (.int p3), .val (.int p4), .val (.int p5), .val (.int (2 : Int32)), .val (.int (0 : Int32)), .val (.ref o73), .val (.ref r81), .val (.ref r85)] [(.ref r76)])) _
        refine st89.trans ?_
        show Steps p.tables e below (T89.setTop (mkF m 120 #[.val (.int p1), .val (.int p2), .val (.int p3), .val (.int p4), .val (.int p5), .val (.int (2 : Int32)), .val (.int (0 : Int32)), .val (.ref o73), .val (.ref r81), .val (.ref r85)] [(.int p2)])) _
        refine XS.iloadN X89.here hx rfl (hb hby at_120) rfl ?_
        show Steps p.tables e below (T89.setTop (mkF m 121 #[.val (.int p1), .val (.int p2), .val (.int p3), .val (.int p4), .val (.int p5), .val (.int (2 : Int32)), .val (.int (0 : Int32)), .val (.ref o73), .val (.ref r81), .val (.ref r85)] [(.int p2), (.int p2)])) _
        refine XS.icmpYes X89.here hx rfl (pc0 := 121) (pc' := 126) rfl (hb hby at_121) rfl (teq h90).1 (by decide) (by decide) ?_
        show Steps p.tables e below (T89.setTop (mkF m 126 #[.val (.int p1), .val (.int p2), .val (.int p3), .val (.int p4), .val (.int p5), .val (.int (2 : Int32)), .val (.int (0 : Int32)), .val (.ref o73), .val (.ref r81), .val (.ref r85)] [])) _
        refine XS.iload X89.here hx rfl (hb hby at_126) rfl ?_
        show Steps p.tables e below (T89.setTop (mkF m 128 #[.val (.int p1), .val (.int p2), .val (.int p3), .val (.int p4), .val (.int p5), .val (.int (2 : Int32)), .val (.int (0 : Int32)), .val (.ref o73), .val (.ref r81), .val (.ref r85)] [(.int (2 : Int32))])) _
        refine XS.iconst X89.here hx rfl (hb hby at_128) ?_
        show Steps p.tables e below (T89.setTop (mkF m 129 #[.val (.int p1), .val (.int p2), .val (.int p3), .val (.int p4), .val (.int p5), .val (.int (2 : Int32)), .val (.int (0 : Int32)), .val (.ref o73), .val (.ref r81), .val (.ref r85)] [(.int (2 : Int32)), (.int (2 : Int32))])) _
        refine XS.icmpNo X89.here hx rfl (hb hby at_129) rfl (flt h91).1 ?_
        show Steps p.tables e below (T89.setTop (mkF m 132 #[.val (.int p1), .val (.int p2), .val (.int p3), .val (.int p4), .val (.int p5), .val (.int (2 : Int32)), .val (.int (0 : Int32)), .val (.ref o73), .val (.ref r81), .val (.ref r85)] [])) _
        refine XS.aload X89.here hx rfl (hb hby at_132) rfl rfl ?_
        show Steps p.tables e below (T89.setTop (mkF m 134 #[.val (.int p1), .val (.int p2), .val (.int p3), .val (.int p4), .val (.int p5), .val (.int (2 : Int32)), .val (.int (0 : Int32)), .val (.ref o73), .val (.ref r81), .val (.ref r85)] [(.ref r85)])) _
        refine st92.trans ?_
        show Steps p.tables e below (T92.setTop (mkF m 139 #[.val (.int p1), .val (.int p2), .val (.int p3), .val (.int p4), .val (.int p5), .val (.int (2 : Int32)), .val (.int (0 : Int32)), .val (.ref o73), .val (.ref r81), .val (.ref r85)] [(.ref r79)])) _
        refine st93 _ ?_
        show Steps p.tables e below (T93.setTop (mkF m 142 #[.val (.int p1), .val (.int p2), .val (.int p3), .val (.int p4), .val (.int p5), .val (.int (2 : Int32)), .val (.int (0 : Int32)), .val (.ref o73), .val (.ref r81), .val (.ref r85)] [(.ref r79)])) _
        refine st94.trans ?_
        show Steps p.tables e below (T94.setTop (mkF m 145 #[.val (.int p1), .val (.int p2), .val (.int p3), .val (.int p4), .val (.int p5), .val (.int (2 : Int32)), .val (.int (0 : Int32)), .val (.ref o73), .val (.ref r81), .val (.ref r85)] [(.int p3)])) _
        refine XS.iloadN X94.here hx rfl (hb hby at_145) rfl ?_
        show Steps p.tables e below (T94.setTop (mkF m 146 #[.val (.int p1), .val (.int p2), .val (.int p3), .val (.int p4), .val (.int p5), .val (.int (2 : Int32)), .val (.int (0 : Int32)), .val (.ref o73), .val (.ref r81), .val (.ref r85)] [(.int p3), (.int p3)])) _
        refine XS.icmpYes X94.here hx rfl (pc0 := 146) (pc' := 151) rfl (hb hby at_146) rfl (teq h95).1 (by decide) (by decide) ?_
        show Steps p.tables e below (T94.setTop (mkF m 151 #[.val (.int p1), .val (.int p2), .val (.int p3), .val (.int p4), .val (.int p5), .val (.int (2 : Int32)), .val (.int (0 : Int32)), .val (.ref o73), .val (.ref r81), .val (.ref r85)] [])) _
        refine XS.aload X94.here hx rfl (hb hby at_151) rfl rfl ?_
        show Steps p.tables e below (T94.setTop (mkF m 153 #[.val (.int p1), .val (.int p2), .val (.int p3), .val (.int p4), .val (.int p5), .val (.int (2 : Int32)), .val (.int (0 : Int32)), .val (.ref o73), .val (.ref r81), .val (.ref r85)] [(.ref r85)])) _
        refine st96.trans ?_
        show Steps p.tables e below (T96.setTop (mkF m 158 #[.val (.int p1), .val (.int p2), .val (.int p3), .val (.int p4), .val (.int p5), .val (.int (2 : Int32)), .val (.int (0 : Int32)), .val (.ref o73), .val (.ref r81), .val (.ref r85)] [(.int (0 : Int32))])) _
        refine XS.ifNo X96.here hx rfl (hb hby at_158) rfl ((if0 _ _).trans (teq h97).2) ?_
        show Steps p.tables e below (T96.setTop (mkF m 161 #[.val (.int p1), .val (.int p2), .val (.int p3), .val (.int p4), .val (.int p5), .val (.int (2 : Int32)), .val (.int (0 : Int32)), .val (.ref o73), .val (.ref r81), .val (.ref r85)] [])) _
        refine XS.iconst X96.here hx rfl (hb hby at_161) ?_
        show Steps p.tables e below (T96.setTop (mkF m 162 #[.val (.int p1), .val (.int p2), .val (.int p3), .val (.int p4), .val (.int p5), .val (.int (2 : Int32)), .val (.int (0 : Int32)), .val (.ref o73), .val (.ref r81), .val (.ref r85)] [(.int (1 : Int32))])) _
        refine XS.goto X96.here hx rfl (pc0 := 162) (pc' := 166) rfl (hb hby at_162) (by decide) (by decide) ?_
        show Steps p.tables e below (T96.setTop (mkF m 166 #[.val (.int p1), .val (.int p2), .val (.int p3), .val (.int p4), .val (.int p5), .val (.int (2 : Int32)), .val (.int (0 : Int32)), .val (.ref o73), .val (.ref r81), .val (.ref r85)] [(.int (1 : Int32))])) _
        exact retN X96 hx (t := .boolean) Bd.returns (by simp) (hb hby at_166) hr
      · show Q0 Z p1 p2 p3 p4 p5 h0 n0 _ T96.heap _
        rw [e96]
        exact ⟨rfl, N96⟩
    · obtain ⟨T98, h98, X98, e98, E98, A98, D98, -, st98⟩ := newO X0 hx hZ hown (hw _ (List.mem_of_getElem? (i := 1) rfl)) (hw _ (List.mem_of_getElem? (i := 2) rfl)) (hw _ (List.mem_of_getElem? (i := 3) rfl)) e0 (g := (mkF m 22 #[.val (.int p1), .val (.int p2), .val (.int p3), .val (.int p4), .val (.int p5), .val (.int (2 : Int32)), .val (.int (1 : Int32)), .unset, .unset, .unset] [])) rfl (hb hby at_22) (by decide) (by decide)
      obtain ⟨o98, g98⟩ : ∃ z, z = h0.size := ⟨_, rfl⟩
      rw [← g98] at A98 D98 st98
      have ge98 : n0 ≤ o98 := Nat.le_trans Z0 (Nat.le_of_eq g98.symm)
      have Z98 : n0 ≤ h98.size := Nat.le_trans Z0 E98.1
      have sz98 : h0.size ≤ o98 := Nat.le_trans K0.1 (Nat.le_of_eq g98.symm)
      have K98 := K0.ext E98
      have OL98 := OLD.ext E98
      have D98_13 : Fld Z h98 o98 "com/example/apportion/apportion/AppendOnlyList" "chunks" "[[Ljava/lang/Object;" .null := D98 (Or.inl (hw _ (List.mem_of_getElem? (i := 13) rfl))) (ty := (.array (.array (.object "java/lang/Object")))) (by decide)
      have D98_23 : Fld Z h98 o98 "com/example/apportion/apportion/AppendOnlyList" "size" "I" (.int (0 : Int32)) := D98 (Or.inl (hw _ (List.mem_of_getElem? (i := 23) rfl))) (ty := .int) (by decide)
      obtain ⟨_, _, ⟨T99, L99, k99, n99⟩, -, X99, ⟨Lc99, hQ99, l99, y99, z99⟩, st99⟩ := X98.specialBack hx (y := (⟨"com/example/apportion/apportion/AppendOnlyList", "<init>", "()V"⟩ : MethodName)) rfl hown (mvT hZ (hw _ (List.mem_of_getElem? (i := 4) rfl))) (mvT hZ (hw _ (List.mem_of_getElem? (i := 5) rfl))) (mvT hZ (hw _ (List.mem_of_getElem? (i := 6) rfl))) (by decide) (backOf (W := 1) (rm1 l Z a0 hw [] o98 h98 n0 Z98 A98 ge98 D98_13 D98_23) hZ (hw _ (List.mem_of_getElem? (i := 6) rfl)) (hw _ (List.mem_of_getElem? (i := 3) rfl)) (by decide) (by decide)) (g := (mkF m 26 #[.val (.int p1), .val (.int p2), .val (.int p3), .val (.int p4), .val (.int p5), .val (.int (2 : Int32)), .val (.int (1 : Int32)), .unset, .unset, .unset] [(.ref o98), (.ref o98)])) rfl (by rw [hml]; rfl) (Steps.refl _) (a := o98) (argsL := []) (rest := [(.ref o98)]) (lenOf pd_0 rfl) rfl (by show 2 * 0 + _ ≤ _; exact Nat.le_of_eq rfl) (hb hby at_26) (fun _ _ => ⟨rfl, e98, (by decide : 1 + 1 ≤ _), (by decide : 2 + 1 ≤ _)⟩)
      dsimp only [Pt.U, Pt.locs, Pt.cells, Pt.slots] at X99 l99 y99 z99 st99 hQ99
      subst l99 y99 z99
      obtain ⟨t199, k_t199, rfl, N99q, Kc99, fr99_t1, c99_0, c99_1, c99_2, c99_3, c99_4, c99_5⟩ := hQ99
      have N99 := Fr.app N0 N99q
      have ne99_t1_1 : o98 ≠ t199 := Nat.ne_of_lt (Nat.lt_of_lt_of_le A98.lt fr99_t1)
      have ge99_t1 : n0 ≤ t199 := Nat.le_trans Z98 fr99_t1
      have sz99_t1 : h0.size ≤ t199 := Nat.le_trans K98.1 fr99_t1
      have u99_0 := A98.keep Kc99
      have OL99 := OL98.keep Kc99 (fun x hx => by cases List.mem_singleton.mp hx; exact ge98)
      have K99 := K98.trans Kc99 (fun x hx => by cases List.mem_singleton.mp hx; exact Or.inr sz98)
      have Z99 : n0 ≤ T99.heap.size := Nat.le_trans Z98 Kc99.1
      have h100 : ¬ ((2 : Int32) < (1 : Int32)) := by decide
      obtain ⟨_, _, ⟨T101, L101, k101, n101⟩, -, X101, ⟨Lc101, hQ101, l101, y101, z101⟩, st101⟩ := Jvm.LawKit.callS X99 hx (y := (⟨"java/lang/Integer", "valueOf", "(I)Ljava/lang/Integer;"⟩ : MethodName)) hown (mvT hZ (hw _ (List.mem_of_getElem? (i := 63) rfl))) (mvT hZ (hw _ (List.mem_of_getElem? (i := 64) rfl))) (mvT hZ (hw _ (List.mem_of_getElem? (i := 65) rfl))) (mvT hZ (hw _ (List.mem_of_getElem? (i := 66) rfl))) (by decide) (backOf (W := 1) (rm9 l Z a0 hw [] p2 T99.heap n0 Z99 OL99 hC) hZ (hw _ (List.mem_of_getElem? (i := 66) rfl)) (hw _ (List.mem_of_getElem? (i := 65) rfl)) (by decide) (by decide)) (g := (mkF m 40 #[.val (.int p1), .val (.int p2), .val (.int p3), .val (.int p4), .val (.int p5), .val (.int (2 : Int32)), .val (.int (1 : Int32)), .val (.ref o98), .unset, .unset] [(.int p2), (.ref o98)])) rfl (by rw [hml]; rfl) (argsL := [(.int p2)]) (rest := [(.ref o98)]) (lenOf pd_8 rfl) rfl (by show 2 * 0 + _ ≤ _; exact Nat.le_of_eq rfl) (hb hby at_40) (fun _ _ => ⟨rfl, rfl, (by decide : 2 + 1 ≤ _), (by decide : 3 + 1 ≤ _)⟩)
      dsimp only [Pt.U, Pt.locs, Pt.cells, Pt.slots] at X101 l101 y101 z101 st101 hQ101
      subst l101 y101 z101
      obtain ⟨r101, rfl, N101q, Kc101, c101_0, c101_1⟩ := hQ101
      have N101 := Fr.app N99 N101q
      have u101_0 := c99_1.keep Kc101
      have u101_1 := c99_0.keep Kc101 (List.not_mem_nil)
      have u101_2 := c99_2.keep Kc101
      have u101_3 := c99_3.keep Kc101 (List.not_mem_nil)
      have u101_4 := c99_4.keep Kc101 (List.not_mem_nil)
      have OL101 := OL99.keep Kc101 (fun x hx => absurd hx List.not_mem_nil)
      have K101 := K99.trans Kc101 (fun x hx => absurd hx List.not_mem_nil)
      have Z101 : n0 ≤ T101.heap.size := Nat.le_trans Z99 Kc101.1
      obtain ⟨cq102, kq102, q102a, q102b, q102c⟩ := isOf hZ rfl u101_0
      obtain ⟨_, _, ⟨T102, L102, k102, n102⟩, -, X102, ⟨Lc102, hQ102, l102, y102, z102⟩, st102⟩ := X101.virtualBack hx (y := (⟨"com/example/apportion/apportion/AppendOnlyList", "add", "(Ljava/lang/Object;)V"⟩ : MethodName)) (z := (⟨"com/example/apportion/apportion/AppendOnlyList", "add", "(Ljava/lang/Object;)V"⟩ : MethodName)) hown (mvT hZ (hw _ (List.mem_of_getElem? (i := 70) rfl))) (mvT hZ (hw _ (List.mem_of_getElem? (i := 71) rfl))) (notFace_of_selects (args := #[]) (mvT hZ (hw _ (List.mem_of_getElem? (i := 73) rfl)))) (mvT hZ (hw _ (List.mem_of_getElem? (i := 73) rfl))) (mvT hZ (hw _ (List.mem_of_getElem? (i := 72) rfl))) (by decide) (backOf (W := 0) (rmadd0 l Z a0 hw [] o98 r101 t199 k_t199 T101.heap n0 Z101 u101_0 ge98 u101_3 u101_4 u101_1 u101_2 ge99_t1 c99_5 c101_0) hZ (hw _ (List.mem_of_getElem? (i := 74) rfl)) (hw _ (List.mem_of_getElem? (i := 3) rfl)) (by decide) (by decide)) q102a q102c (g := (mkF m 43 #[.val (.int p1), .val (.int p2), .val (.int p3), .val (.int p4), .val (.int p5), .val (.int (2 : Int32)), .val (.int (1 : Int32)), .val (.ref o98), .unset, .unset] [(.ref r101), (.ref o98)])) rfl (by rw [hml]; rfl) (Steps.refl _) (argsL := [(.ref r101)]) (rest := []) (lenOf pd_9 rfl) rfl (by show 2 * 0 + _ ≤ _; exact Nat.le_of_eq rfl) (hb hby at_43) (fun _ _ => ⟨rfl, rfl, (by decide : 3 + 1 ≤ _), (by decide : 4 + 4096 ≤ _)⟩)
      dsimp only [Pt.U, Pt.locs, Pt.cells, Pt.slots] at X102 l102 y102 z102 st102 hQ102
      subst l102 y102 z102
      obtain ⟨t2102, k_t2102, rfl, N102q, Kc102, fr102_t2, c102_0, c102_1, c102_2, c102_3, c102_4, c102_5, c102_6, c102_7⟩ := hQ102
      have N102 := Fr.app N101 N102q
      have ne102_t2_1 : o98 ≠ t2102 := Nat.ne_of_lt (Nat.lt_of_lt_of_le u101_0.lt fr102_t2)
      have ne102_t2_2 : t199 ≠ t2102 := Nat.ne_of_lt (Nat.lt_of_lt_of_le u101_1.lt fr102_t2)
      have ne102_t2_3 : r101 ≠ t2102 := Nat.ne_of_lt (Nat.lt_of_lt_of_le c101_0.lt fr102_t2)
      have ge102_t2 : n0 ≤ t2102 := Nat.le_trans Z101 fr102_t2
      have sz102_t2 : h0.size ≤ t2102 := Nat.le_trans K101.1 fr102_t2
      have u102_0 := u101_0.keep Kc102
      have u102_2 := u101_2.keep Kc102
      have u102_5 := c101_0.keep Kc102
      have u102_6 := c101_1.keep Kc102 (by simp only [List.mem_cons, List.not_mem_nil, or_false, not_or]; exact ⟨(ne_exa c101_0 u101_0 (by decide)), (ne_exa c101_0 u101_2 (by decide))⟩)
      have OL102 := OL101.keep Kc102 (fun x hx => by simp only [List.mem_cons, List.not_mem_nil, or_false] at hx; rcases hx with rfl | rfl; exact ge98; exact ge99_t1)
      have K102 := K101.trans Kc102 (fun x hx => by simp only [List.mem_cons, List.not_mem_nil, or_false] at hx; rcases hx with rfl | rfl; exact Or.inr sz98; exact Or.inr sz99_t1)
      have Z102 : n0 ≤ T102.heap.size := Nat.le_trans Z101 Kc102.1
      have h103 : ¬ ((2 : Int32) < (2 : Int32)) := by decide
      obtain ⟨_, _, ⟨T104, L104, k104, n104⟩, -, X104, ⟨Lc104, hQ104, l104, y104, z104⟩, st104⟩ := Jvm.LawKit.callS X102 hx (y := (⟨"java/lang/Integer", "valueOf", "(I)Ljava/lang/Integer;"⟩ : MethodName)) hown (mvT hZ (hw _ (List.mem_of_getElem? (i := 63) rfl))) (mvT hZ (hw _ (List.mem_of_getElem? (i := 64) rfl))) (mvT hZ (hw _ (List.mem_of_getElem? (i := 65) rfl))) (mvT hZ (hw _ (List.mem_of_getElem? (i := 66) rfl))) (by decide) (backOf (W := 1) (rm9 l Z a0 hw [] p3 T102.heap n0 Z102 OL102 hC) hZ (hw _ (List.mem_of_getElem? (i := 66) rfl)) (hw _ (List.mem_of_getElem? (i := 65) rfl)) (by decide) (by decide)) (g := (mkF m 55 #[.val (.int p1), .val (.int p2), .val (.int p3), .val (.int p4), .val (.int p5), .val (.int (2 : Int32)), .val (.int (1 : Int32)), .val (.ref o98), .unset, .unset] [(.int p3), (.ref o98)])) rfl (by rw [hml]; rfl) (argsL := [(.int p3)]) (rest := [(.ref o98)]) (lenOf pd_8 rfl) rfl (by show 2 * 0 + _ ≤ _; exact Nat.le_of_eq rfl) (hb hby at_55) (fun _ _ => ⟨rfl, rfl, (by decide : 4 + 1 ≤ _), (by decide : 4100 + 1 ≤ _)⟩)
      dsimp only [Pt.U, Pt.locs, Pt.cells, Pt.slots] at X104 l104 y104 z104 st104 hQ104
      subst l104 y104 z104
      obtain ⟨r104, rfl, N104q, Kc104, c104_0, c104_1⟩ := hQ104
      have N104 := Fr.app N102 N104q
      have u104_0 := c102_2.keep Kc104
      have u104_1 := c102_3.keep Kc104
      have u104_2 := u102_5.keep Kc104
      have u104_3 := u102_6.keep Kc104 (List.not_mem_nil)
      have u104_4 := c102_0.keep Kc104 (List.not_mem_nil)
      have u104_5 := c102_1.keep Kc104 (List.not_mem_nil)
      have u104_6 := c102_4.keep Kc104
      have u104_7 := c102_5.keep Kc104 (List.not_mem_nil)
      have u104_8 := c102_6.keep Kc104 (List.not_mem_nil)
      have OL104 := OL102.keep Kc104 (fun x hx => absurd hx List.not_mem_nil)
      have K104 := K102.trans Kc104 (fun x hx => absurd hx List.not_mem_nil)
      have Z104 : n0 ≤ T104.heap.size := Nat.le_trans Z102 Kc104.1
      obtain ⟨cq105, kq105, q105a, q105b, q105c⟩ := isOf hZ rfl u104_0
      obtain ⟨_, _, ⟨T105, L105, k105, n105⟩, -, X105, ⟨Lc105, hQ105, l105, y105, z105⟩, st105⟩ := X104.virtualBack hx (y := (⟨"com/example/apportion/apportion/AppendOnlyList", "add", "(Ljava/lang/Object;)V"⟩ : MethodName)) (z := (⟨"com/example/apportion/apportion/AppendOnlyList", "add", "(Ljava/lang/Object;)V"⟩ : MethodName)) hown (mvT hZ (hw _ (List.mem_of_getElem? (i := 70) rfl))) (mvT hZ (hw _ (List.mem_of_getElem? (i := 71) rfl))) (notFace_of_selects (args := #[]) (mvT hZ (hw _ (List.mem_of_getElem? (i := 73) rfl)))) (mvT hZ (hw _ (List.mem_of_getElem? (i := 73) rfl))) (mvT hZ (hw _ (List.mem_of_getElem? (i := 72) rfl))) (by decide) (backOf (W := 0) (rmadd1 l Z a0 hw [] o98 r104 t199 k_t199 t2102 k_t2102 (.ref r101) T104.heap n0 Z104 u104_0 ge98 u104_7 u104_8 u104_4 u104_1 ge99_t1 c99_5 c104_0 u104_5 u104_6 ge102_t2 c102_7) hZ (hw _ (List.mem_of_getElem? (i := 74) rfl)) (hw _ (List.mem_of_getElem? (i := 3) rfl)) (by decide) (by decide)) q105a q105c (g := (mkF m 58 #[.val (.int p1), .val (.int p2), .val (.int p3), .val (.int p4), .val (.int p5), .val (.int (2 : Int32)), .val (.int (1 : Int32)), .val (.ref o98), .unset, .unset] [(.ref r104), (.ref o98)])) rfl (by rw [hml]; rfl) (Steps.refl _) (argsL := [(.ref r104)]) (rest := []) (lenOf pd_9 rfl) rfl (by show 2 * 0 + _ ≤ _; exact Nat.le_of_eq rfl) (hb hby at_58) (fun _ _ => ⟨rfl, rfl, (by decide : 5 + 0 ≤ _), (by decide : 4101 + 0 ≤ _)⟩)
      dsimp only [Pt.U, Pt.locs, Pt.cells, Pt.slots] at X105 l105 y105 z105 st105 hQ105
      subst l105 y105 z105
      obtain ⟨rfl, N105q, Kc105, c105_0, c105_1, c105_2, c105_3, c105_4⟩ := hQ105
      have N105 := Fr.app N104 N105q
      have u105_0 := u104_0.keep Kc105
      have u105_1 := u104_1.keep Kc105
      have u105_2 := u104_2.keep Kc105
      have u105_3 := u104_3.keep Kc105 (by simp only [List.mem_cons, List.not_mem_nil, or_false, not_or]; exact ⟨(ne_exa u104_2 u104_0 (by decide)), ne102_t2_3⟩)
      have u105_4 := u104_4.keep Kc105 (by simp only [List.mem_cons, List.not_mem_nil, or_false, not_or]; exact ⟨(Ne.symm ne99_t1_1), ne102_t2_2⟩)
      have u105_6 := u104_6.keep Kc105
      have u105_9 := c104_0.keep Kc105
      have u105_10 := c104_1.keep Kc105 (by simp only [List.mem_cons, List.not_mem_nil, or_false, not_or]; exact ⟨(ne_exa c104_0 u104_0 (by decide)), (ne_exa c104_0 u104_6 (by decide))⟩)
      have OL105 := OL104.keep Kc105 (fun x hx => by simp only [List.mem_cons, List.not_mem_nil, or_false] at hx; rcases hx with rfl | rfl; exact ge98; exact ge102_t2)
      have K105 := K104.trans Kc105 (fun x hx => by simp only [List.mem_cons, List.not_mem_nil, or_false] at hx; rcases hx with rfl | rfl; exact Or.inr sz98; exact Or.inr sz102_t2)
      have Z105 : n0 ≤ T105.heap.size := Nat.le_trans Z104 Kc105.1
      obtain ⟨cq106, kq106, q106a, q106b, q106c⟩ := isOf hZ rfl c105_1
      obtain ⟨_, _, ⟨T106, L106, k106, n106⟩, -, X106, ⟨Lc106, hQ106, l106, y106, z106⟩, st106⟩ := X105.virtualBack hx (y := (⟨"com/example/apportion/apportion/AppendOnlyList", "prefix", "()Lcom/example/apportion/apportion/AppendOnlyList$Prefix;"⟩ : MethodName)) (z := (⟨"com/example/apportion/apportion/AppendOnlyList", "prefix", "()Lcom/example/apportion/apportion/AppendOnlyList$Prefix;"⟩ : MethodName)) hown (mvT hZ (hw _ (List.mem_of_getElem? (i := 14) rfl))) (mvT hZ (hw _ (List.mem_of_getElem? (i := 15) rfl))) (notFace_of_selects (args := #[]) (mvT hZ (hw _ (List.mem_of_getElem? (i := 17) rfl)))) (mvT hZ (hw _ (List.mem_of_getElem? (i := 17) rfl))) (mvT hZ (hw _ (List.mem_of_getElem? (i := 16) rfl))) (by decide) (backOf (W := 0) (rm3 l Z a0 hw [] o98 t199 (2 : Int32) T105.heap n0 Z105 c105_3 c105_4) hZ (hw _ (List.mem_of_getElem? (i := 18) rfl)) (hw _ (List.mem_of_getElem? (i := 3) rfl)) (by decide) (by decide)) q106a q106c (g := (mkF m 63 #[.val (.int p1), .val (.int p2), .val (.int p3), .val (.int p4), .val (.int p5), .val (.int (2 : Int32)), .val (.int (1 : Int32)), .val (.ref o98), .unset, .unset] [(.ref o98)])) rfl (by rw [hml]; rfl) (Steps.refl _) (argsL := []) (rest := []) (lenOf pd_4 rfl) rfl (by show 2 * 0 + _ ≤ _; exact Nat.le_of_eq rfl) (hb hby at_63) (fun _ _ => ⟨rfl, rfl, (by decide : 5 + 1 ≤ _), (by decide : 4101 + 2 ≤ _)⟩)
      dsimp only [Pt.U, Pt.locs, Pt.cells, Pt.slots] at X106 l106 y106 z106 st106 hQ106
      subst l106 y106 z106
      obtain ⟨r106, rfl, N106q, Kc106, fr106_r, c106_0, c106_1, c106_2⟩ := hQ106
      have N106 := Fr.app N105 N106q
      have ne106_r_1 : o98 ≠ r106 := Nat.ne_of_lt (Nat.lt_of_lt_of_le c105_1.lt fr106_r)
      have ne106_r_2 : t199 ≠ r106 := Nat.ne_of_lt (Nat.lt_of_lt_of_le u105_1.lt fr106_r)
      have ne106_r_3 : r101 ≠ r106 := Nat.ne_of_lt (Nat.lt_of_lt_of_le u105_2.lt fr106_r)
      have ne106_r_4 : t2102 ≠ r106 := Nat.ne_of_lt (Nat.lt_of_lt_of_le c105_2.lt fr106_r)
      have ne106_r_5 : r104 ≠ r106 := Nat.ne_of_lt (Nat.lt_of_lt_of_le u105_9.lt fr106_r)
      have ge106_r : n0 ≤ r106 := Nat.le_trans Z105 fr106_r
      have sz106_r : h0.size ≤ r106 := Nat.le_trans K105.1 fr106_r
      have u106_0 := c105_1.keep Kc106
      have u106_1 := u105_1.keep Kc106
      have u106_2 := u105_2.keep Kc106
      have u106_3 := u105_3.keep Kc106 (List.not_mem_nil)
      have u106_4 := u105_4.keep Kc106 (List.not_mem_nil)
      have u106_5 := c105_2.keep Kc106
      have u106_6 := u105_9.keep Kc106
      have u106_7 := u105_10.keep Kc106 (List.not_mem_nil)
      have u106_8 := c105_0.keep Kc106 (List.not_mem_nil)
      have u106_9 := c105_3.keep Kc106 (List.not_mem_nil)
      have u106_10 := c105_4.keep Kc106 (List.not_mem_nil)
      have OL106 := OL105.keep Kc106 (fun x hx => absurd hx List.not_mem_nil)
      have K106 := K105.trans Kc106 (fun x hx => absurd hx List.not_mem_nil)
      have Z106 : n0 ≤ T106.heap.size := Nat.le_trans Z105 Kc106.1
      have h107 : ¬ ((1 : Int32) = (0 : Int32)) := by decide
      obtain ⟨_, _, ⟨T108, L108, k108, n108⟩, -, X108, ⟨Lc108, hQ108, l108, y108, z108⟩, st108⟩ := Jvm.LawKit.callS X106 hx (y := (⟨"java/lang/Integer", "valueOf", "(I)Ljava/lang/Integer;"⟩ : MethodName)) hown (mvT hZ (hw _ (List.mem_of_getElem? (i := 63) rfl))) (mvT hZ (hw _ (List.mem_of_getElem? (i := 64) rfl))) (mvT hZ (hw _ (List.mem_of_getElem? (i := 65) rfl))) (mvT hZ (hw _ (List.mem_of_getElem? (i := 66) rfl))) (by decide) (backOf (W := 1) (rm9 l Z a0 hw [] p4 T106.heap n0 Z106 OL106 hC) hZ (hw _ (List.mem_of_getElem? (i := 66) rfl)) (hw _ (List.mem_of_getElem? (i := 65) rfl)) (by decide) (by decide)) (g := (mkF m 76 #[.val (.int p1), .val (.int p2), .val (.int p3), .val (.int p4), .val (.int p5), .val (.int (2 : Int32)), .val (.int (1 : Int32)), .val (.ref o98), .val (.ref r106), .unset] [(.int p4), (.ref o98)])) rfl (by rw [hml]; rfl) (argsL := [(.int p4)]) (rest := [(.ref o98)]) (lenOf pd_8 rfl) rfl (by show 2 * 0 + _ ≤ _; exact Nat.le_of_eq rfl) (hb hby at_76) (fun _ _ => ⟨rfl, rfl, (by decide : 6 + 1 ≤ _), (by decide : 4103 + 1 ≤ _)⟩)
      dsimp only [Pt.U, Pt.locs, Pt.cells, Pt.slots] at X108 l108 y108 z108 st108 hQ108
      subst l108 y108 z108
      obtain ⟨r108, rfl, N108q, Kc108, c108_0, c108_1⟩ := hQ108
      have N108 := Fr.app N106 N108q
      have u108_0 := u106_0.keep Kc108
      have u108_1 := u106_1.keep Kc108
      have u108_2 := u106_2.keep Kc108
      have u108_3 := u106_3.keep Kc108 (List.not_mem_nil)
      have u108_4 := u106_4.keep Kc108 (List.not_mem_nil)
      have u108_5 := u106_5.keep Kc108
      have u108_6 := u106_6.keep Kc108
      have u108_7 := u106_7.keep Kc108 (List.not_mem_nil)
      have u108_8 := u106_8.keep Kc108 (List.not_mem_nil)
      have u108_9 := u106_9.keep Kc108 (List.not_mem_nil)
      have u108_10 := u106_10.keep Kc108 (List.not_mem_nil)
      have u108_11 := c106_0.keep Kc108
      have u108_12 := c106_1.keep Kc108 (List.not_mem_nil)
      have u108_13 := c106_2.keep Kc108 (List.not_mem_nil)
      have OL108 := OL106.keep Kc108 (fun x hx => absurd hx List.not_mem_nil)
      have K108 := K106.trans Kc108 (fun x hx => absurd hx List.not_mem_nil)
      have Z108 : n0 ≤ T108.heap.size := Nat.le_trans Z106 Kc108.1
      obtain ⟨cq109, kq109, q109a, q109b, q109c⟩ := isOf hZ rfl u108_0
      obtain ⟨_, _, ⟨T109, L109, k109, n109⟩, -, X109, ⟨Lc109, hQ109, l109, y109, z109⟩, st109⟩ := X108.virtualBack hx (y := (⟨"com/example/apportion/apportion/AppendOnlyList", "add", "(Ljava/lang/Object;)V"⟩ : MethodName)) (z := (⟨"com/example/apportion/apportion/AppendOnlyList", "add", "(Ljava/lang/Object;)V"⟩ : MethodName)) hown (mvT hZ (hw _ (List.mem_of_getElem? (i := 70) rfl))) (mvT hZ (hw _ (List.mem_of_getElem? (i := 71) rfl))) (notFace_of_selects (args := #[]) (mvT hZ (hw _ (List.mem_of_getElem? (i := 73) rfl)))) (mvT hZ (hw _ (List.mem_of_getElem? (i := 73) rfl))) (mvT hZ (hw _ (List.mem_of_getElem? (i := 72) rfl))) (by decide) (backOf (W := 0) (rmadd2 l Z a0 hw [] o98 r108 t199 k_t199 t2102 k_t2102 (.ref r101) (.ref r104) T108.heap n0 Z108 u108_0 ge98 u108_9 u108_10 u108_4 u108_1 ge99_t1 c99_5 c108_0 u108_8 u108_5 ge102_t2 c102_7) hZ (hw _ (List.mem_of_getElem? (i := 74) rfl)) (hw _ (List.mem_of_getElem? (i := 3) rfl)) (by decide) (by decide)) q109a q109c (g := (mkF m 79 #[.val (.int p1), .val (.int p2), .val (.int p3), .val (.int p4), .val (.int p5), .val (.int (2 : Int32)), .val (.int (1 : Int32)), .val (.ref o98), .val (.ref r106), .unset] [(.ref r108), (.ref o98)])) rfl (by rw [hml]; rfl) (Steps.refl _) (argsL := [(.ref r108)]) (rest := []) (lenOf pd_9 rfl) rfl (by show 2 * 0 + _ ≤ _; exact Nat.le_of_eq rfl) (hb hby at_79) (fun _ _ => ⟨rfl, rfl, (by decide : 7 + 0 ≤ _), (by decide : 4104 + 0 ≤ _)⟩)
      dsimp only [Pt.U, Pt.locs, Pt.cells, Pt.slots] at X109 l109 y109 z109 st109 hQ109
      subst l109 y109 z109
      obtain ⟨rfl, N109q, Kc109, c109_0, c109_1, c109_2, c109_3, c109_4⟩ := hQ109
      have N109 := Fr.app N108 N109q
      have u109_0 := u108_0.keep Kc109
      have u109_1 := u108_1.keep Kc109
      have u109_2 := u108_2.keep Kc109
      have u109_3 := u108_3.keep Kc109 (by simp only [List.mem_cons, List.not_mem_nil, or_false, not_or]; exact ⟨(ne_exa u108_2 u108_0 (by decide)), ne102_t2_3⟩)
      have u109_4 := u108_4.keep Kc109 (by simp only [List.mem_cons, List.not_mem_nil, or_false, not_or]; exact ⟨(Ne.symm ne99_t1_1), ne102_t2_2⟩)
      have u109_5 := u108_5.keep Kc109
      have u109_6 := u108_6.keep Kc109
      have u109_7 := u108_7.keep Kc109 (by simp only [List.mem_cons, List.not_mem_nil, or_false, not_or]; exact ⟨(ne_exa u108_6 u108_0 (by decide)), (ne_exa u108_6 u108_5 (by decide))⟩)
      have u109_11 := u108_11.keep Kc109
      have u109_12 := u108_12.keep Kc109 (by simp only [List.mem_cons, List.not_mem_nil, or_false, not_or]; exact ⟨(Ne.symm ne106_r_1), (Ne.symm ne106_r_4)⟩)
      have u109_13 := u108_13.keep Kc109 (by simp only [List.mem_cons, List.not_mem_nil, or_false, not_or]; exact ⟨(Ne.symm ne106_r_1), (Ne.symm ne106_r_4)⟩)
      have u109_14 := c108_0.keep Kc109
      have u109_15 := c108_1.keep Kc109 (by simp only [List.mem_cons, List.not_mem_nil, or_false, not_or]; exact ⟨(ne_exa c108_0 u108_0 (by decide)), (ne_exa c108_0 u108_5 (by decide))⟩)
      have OL109 := OL108.keep Kc109 (fun x hx => by simp only [List.mem_cons, List.not_mem_nil, or_false] at hx; rcases hx with rfl | rfl; exact ge98; exact ge102_t2)
      have K109 := K108.trans Kc109 (fun x hx => by simp only [List.mem_cons, List.not_mem_nil, or_false] at hx; rcases hx with rfl | rfl; exact Or.inr sz98; exact Or.inr sz102_t2)
      have Z109 : n0 ≤ T109.heap.size := Nat.le_trans Z108 Kc109.1
      obtain ⟨cq110, kq110, q110a, q110b, q110c⟩ := isOf hZ rfl u109_11
      obtain ⟨_, _, ⟨T110, L110, k110, n110⟩, -, X110, ⟨Lc110, hQ110, l110, y110, z110⟩, st110⟩ := X109.virtualBack hx (y := (⟨"com/example/apportion/apportion/AppendOnlyList$Prefix", "size", "()I"⟩ : MethodName)) (z := (⟨"com/example/apportion/apportion/AppendOnlyList$Prefix", "size", "()I"⟩ : MethodName)) hown (mvT hZ (hw _ (List.mem_of_getElem? (i := 32) rfl))) (mvT hZ (hw _ (List.mem_of_getElem? (i := 33) rfl))) (notFace_of_selects (args := #[]) (mvT hZ (hw _ (List.mem_of_getElem? (i := 35) rfl)))) (mvT hZ (hw _ (List.mem_of_getElem? (i := 35) rfl))) (mvT hZ (hw _ (List.mem_of_getElem? (i := 34) rfl))) (by decide) (backOf (W := 0) (rm5 l Z a0 hw [] r106 (2 : Int32) T109.heap n0 Z109 u109_13) hZ (hw _ (List.mem_of_getElem? (i := 36) rfl)) (hw _ (List.mem_of_getElem? (i := 21) rfl)) (by decide) (by decide)) q110a q110c (g := (mkF m 84 #[.val (.int p1), .val (.int p2), .val (.int p3), .val (.int p4), .val (.int p5), .val (.int (2 : Int32)), .val (.int (1 : Int32)), .val (.ref o98), .val (.ref r106), .unset] [(.ref r106)])) rfl (by rw [hml]; rfl) (Steps.refl _) (argsL := []) (rest := []) (lenOf pd_5 rfl) rfl (by show 2 * 0 + _ ≤ _; exact Nat.le_of_eq rfl) (hb hby at_84) (fun _ _ => ⟨rfl, rfl, (by decide : 7 + 0 ≤ _), (by decide : 4104 + 0 ≤ _)⟩)
      dsimp only [Pt.U, Pt.locs, Pt.cells, Pt.slots] at X110 l110 y110 z110 st110 hQ110
      subst l110 y110 z110
      obtain ⟨hv110, N110q, e110⟩ := hQ110
      rw [show f5 r106 (2 : Int32) = (2 : Int32) from rfl] at hv110
      subst hv110
      have N110 := Fr.app N109 N110q
      have h111 : (2 : Int32) = (2 : Int32) := by decide
      obtain ⟨cq112, kq112, q112a, q112b, q112c⟩ := isOf hZ e110 u109_11
      obtain ⟨_, _, ⟨T112, L112, k112, n112⟩, -, X112, ⟨Lc112, hQ112, l112, y112, z112⟩, st112⟩ := X110.virtualBack hx (y := (⟨"com/example/apportion/apportion/AppendOnlyList$Prefix", "iterator", "()Ljava/util/Iterator;"⟩ : MethodName)) (z := (⟨"com/example/apportion/apportion/AppendOnlyList$Prefix", "iterator", "()Ljava/util/Iterator;"⟩ : MethodName)) hown (mvT hZ (hw _ (List.mem_of_getElem? (i := 37) rfl))) (mvT hZ (hw _ (List.mem_of_getElem? (i := 38) rfl))) (notFace_of_selects (args := #[]) (mvT hZ (hw _ (List.mem_of_getElem? (i := 40) rfl)))) (mvT hZ (hw _ (List.mem_of_getElem? (i := 40) rfl))) (mvT hZ (hw _ (List.mem_of_getElem? (i := 39) rfl))) (by decide) (backOf (W := 0) (rm6 l Z a0 hw [] r106 T109.heap n0 Z109) hZ (hw _ (List.mem_of_getElem? (i := 41) rfl)) (hw _ (List.mem_of_getElem? (i := 21) rfl)) (by decide) (by decide)) q112a q112c (g := (mkF m 96 #[.val (.int p1), .val (.int p2), .val (.int p3), .val (.int p4), .val (.int p5), .val (.int (2 : Int32)), .val (.int (1 : Int32)), .val (.ref o98), .val (.ref r106), .unset] [(.ref r106)])) rfl (by rw [hml]; rfl) (Steps.refl _) (argsL := []) (rest := []) (lenOf pd_6 rfl) rfl (by show 2 * 0 + _ ≤ _; exact Nat.le_of_eq rfl) (hb hby at_96) (fun _ _ => ⟨rfl, e110, (by decide : 7 + 1 ≤ _), (by decide : 4104 + 2 ≤ _)⟩)
      dsimp only [Pt.U, Pt.locs, Pt.cells, Pt.slots] at X112 l112 y112 z112 st112 hQ112
      subst l112 y112 z112
      obtain ⟨r112, rfl, N112q, Kc112, fr112_r, c112_0, c112_1, c112_2⟩ := hQ112
      have N112 := Fr.app N110 N112q
      have ne112_r_1 : o98 ≠ r112 := Nat.ne_of_lt (Nat.lt_of_lt_of_le c109_1.lt fr112_r)
      have ne112_r_2 : t199 ≠ r112 := Nat.ne_of_lt (Nat.lt_of_lt_of_le u109_1.lt fr112_r)
      have ne112_r_3 : r101 ≠ r112 := Nat.ne_of_lt (Nat.lt_of_lt_of_le u109_2.lt fr112_r)
      have ne112_r_4 : t2102 ≠ r112 := Nat.ne_of_lt (Nat.lt_of_lt_of_le c109_2.lt fr112_r)
      have ne112_r_5 : r104 ≠ r112 := Nat.ne_of_lt (Nat.lt_of_lt_of_le u109_6.lt fr112_r)
      have ne112_r_6 : r106 ≠ r112 := Nat.ne_of_lt (Nat.lt_of_lt_of_le u109_11.lt fr112_r)
      have ne112_r_7 : r108 ≠ r112 := Nat.ne_of_lt (Nat.lt_of_lt_of_le u109_14.lt fr112_r)
      have ge112_r : n0 ≤ r112 := Nat.le_trans Z109 fr112_r
      have sz112_r : h0.size ≤ r112 := Nat.le_trans K109.1 fr112_r
      have u112_0 := c109_1.keep Kc112
      have u112_1 := u109_1.keep Kc112
      have u112_2 := u109_2.keep Kc112
      have u112_3 := u109_3.keep Kc112 (List.not_mem_nil)
      have u112_4 := u109_4.keep Kc112 (List.not_mem_nil)
      have u112_5 := c109_2.keep Kc112
      have u112_6 := u109_6.keep Kc112
      have u112_7 := u109_7.keep Kc112 (List.not_mem_nil)
      have u112_8 := u109_11.keep Kc112
      have u112_9 := u109_12.keep Kc112 (List.not_mem_nil)
      have u112_10 := u109_13.keep Kc112 (List.not_mem_nil)
      have u112_11 := u109_14.keep Kc112
      have u112_12 := u109_15.keep Kc112 (List.not_mem_nil)
      have u112_13 := c109_0.keep Kc112 (List.not_mem_nil)
      have u112_14 := c109_3.keep Kc112 (List.not_mem_nil)
      have u112_15 := c109_4.keep Kc112 (List.not_mem_nil)
      have OL112 := OL109.keep Kc112 (fun x hx => absurd hx List.not_mem_nil)
      have K112 := K109.trans Kc112 (fun x hx => absurd hx List.not_mem_nil)
      have Z112 : n0 ≤ T112.heap.size := Nat.le_trans Z109 Kc112.1
      have h113 : ¬ ((2 : Int32) < (1 : Int32)) := by decide
      obtain ⟨cq114, kq114, q114a, q114b, q114c⟩ := isOf hZ rfl c112_0
      obtain ⟨_, _, ⟨T114, L114, k114, n114⟩, -, X114, ⟨Lc114, hQ114, l114, y114, z114⟩, st114⟩ := X112.interfaceBack hx (xi := (⟨"java/util/Iterator", "next", "()Ljava/lang/Object;"⟩ : MethodName)) (y := (⟨"com/example/apportion/apportion/AppendOnlyList$Prefix$1", "next", "()Ljava/lang/Object;"⟩ : MethodName)) hown (mvT hZ (hw _ (List.mem_of_getElem? (i := 94) rfl))) (mvT hZ (hw _ (List.mem_of_getElem? (i := 95) rfl))) (mvT hZ (hw _ (List.mem_of_getElem? (i := 96) rfl))) (mvT hZ (hw _ (List.mem_of_getElem? (i := 97) rfl))) (mvT hZ (hw _ (List.mem_of_getElem? (i := 98) rfl))) (mvT hZ (hw _ (List.mem_of_getElem? (i := 99) rfl))) (mvT hZ (hw _ (List.mem_of_getElem? (i := 100) rfl))) (mvT hZ (hw _ (List.mem_of_getElem? (i := 58) rfl))) (by decide) (backOf (W := 0) (rmnx02 l Z a0 hw [] r112 r106 t199 k_t199 t2102 k_t2102 r101 (.ref r104) (.ref r108) T112.heap n0 Z112 c112_0 ge112_r c112_1 c112_2 u112_8 u112_10 u112_9 u112_4 u112_1 u112_13 u112_5) hZ (hw _ (List.mem_of_getElem? (i := 101) rfl)) (hw _ (List.mem_of_getElem? (i := 44) rfl)) (by decide) (by decide)) q114a q114b q114c (g := (mkF m 109 #[.val (.int p1), .val (.int p2), .val (.int p3), .val (.int p4), .val (.int p5), .val (.int (2 : Int32)), .val (.int (1 : Int32)), .val (.ref o98), .val (.ref r106), .val (.ref r112)] [(.ref r112)])) rfl (by rw [hml]; rfl) (Steps.refl _) (argsL := []) (rest := []) (lenOf pd_10 rfl) rfl (by show 2 * 0 + _ ≤ _; exact Nat.le_of_eq rfl) (hb hby at_109) (fun _ _ => ⟨rfl, rfl, (by decide : 8 + 0 ≤ _), (by decide : 4106 + 0 ≤ _)⟩)
      dsimp only [Pt.U, Pt.locs, Pt.cells, Pt.slots] at X114 l114 y114 z114 st114 hQ114
      subst l114 y114 z114
      obtain ⟨rfl, N114q, Kc114, c114_0, c114_1, c114_2⟩ := hQ114
      have N114 := Fr.app N112 N114q
      have u114_0 := u112_0.keep Kc114
      have u114_1 := u112_1.keep Kc114
      have u114_2 := u112_2.keep Kc114
      have u114_3 := u112_3.keep Kc114 (by simp only [List.mem_cons, List.not_mem_nil, or_false, not_or]; exact ne112_r_3)
      have u114_4 := u112_4.keep Kc114 (by simp only [List.mem_cons, List.not_mem_nil, or_false, not_or]; exact ne112_r_2)
      have u114_5 := u112_5.keep Kc114
      have u114_6 := u112_6.keep Kc114
      have u114_7 := u112_7.keep Kc114 (by simp only [List.mem_cons, List.not_mem_nil, or_false, not_or]; exact ne112_r_5)
      have u114_8 := u112_8.keep Kc114
      have u114_9 := u112_9.keep Kc114 (by simp only [List.mem_cons, List.not_mem_nil, or_false, not_or]; exact ne112_r_6)
      have u114_10 := u112_10.keep Kc114 (by simp only [List.mem_cons, List.not_mem_nil, or_false, not_or]; exact ne112_r_6)
      have u114_11 := u112_11.keep Kc114
      have u114_12 := u112_12.keep Kc114 (by simp only [List.mem_cons, List.not_mem_nil, or_false, not_or]; exact ne112_r_7)
      have u114_13 := u112_13.keep Kc114 (by simp only [List.mem_cons, List.not_mem_nil, or_false, not_or]; exact ne112_r_4)
      have u114_14 := u112_14.keep Kc114 (by simp only [List.mem_cons, List.not_mem_nil, or_false, not_or]; exact ne112_r_1)
      have u114_15 := u112_15.keep Kc114 (by simp only [List.mem_cons, List.not_mem_nil, or_false, not_or]; exact ne112_r_1)
      have u114_16 := c112_0.keep Kc114
      have OL114 := OL112.keep Kc114 (fun x hx => by cases List.mem_singleton.mp hx; exact ge112_r)
      have K114 := K112.trans Kc114 (fun x hx => by cases List.mem_singleton.mp hx; exact Or.inr sz112_r)
      have Z114 : n0 ≤ T114.heap.size := Nat.le_trans Z112 Kc114.1
      obtain ⟨T115, X115, e115, st115⟩ := castY X114 hx hZ hown (hw _ (List.mem_of_getElem? (i := 103) rfl)) rfl (Ins.self u114_2) (g := (mkF m 114 #[.val (.int p1), .val (.int p2), .val (.int p3), .val (.int p4), .val (.int p5), .val (.int (2 : Int32)), .val (.int (1 : Int32)), .val (.ref o98), .val (.ref r106), .val (.ref r112)] [(.ref r101)])) rfl rfl (hb hby at_114)
      obtain ⟨cq116, kq116, q116a, q116b, q116c⟩ := isOf hZ e115 u114_2
      obtain ⟨_, _, ⟨T116, L116, k116, n116⟩, -, X116, ⟨Lc116, hQ116, l116, y116, z116⟩, st116⟩ := X115.virtualBack hx (y := (⟨"java/lang/Integer", "intValue", "()I"⟩ : MethodName)) (z := (⟨"java/lang/Integer", "intValue", "()I"⟩ : MethodName)) hown (mvT hZ (hw _ (List.mem_of_getElem? (i := 104) rfl))) (mvT hZ (hw _ (List.mem_of_getElem? (i := 105) rfl))) (notFace_of_selects (args := #[]) (mvT hZ (hw _ (List.mem_of_getElem? (i := 107) rfl)))) (mvT hZ (hw _ (List.mem_of_getElem? (i := 107) rfl))) (mvT hZ (hw _ (List.mem_of_getElem? (i := 106) rfl))) (by decide) (backOf (W := 0) (rm14 l Z a0 hw [] r101 p2 T114.heap n0 Z114 u114_3) hZ (hw _ (List.mem_of_getElem? (i := 108) rfl)) (hw _ (List.mem_of_getElem? (i := 65) rfl)) (by decide) (by decide)) q116a q116c (g := (mkF m 117 #[.val (.int p1), .val (.int p2), .val (.int p3), .val (.int p4), .val (.int p5), .val (.int (2 : Int32)), .val (.int (1 : Int32)), .val (.ref o98), .val (.ref r106), .val (.ref r112)] [(.ref r101)])) rfl (by rw [hml]; rfl) (Steps.refl _) (argsL := []) (rest := []) (lenOf pd_5 rfl) rfl (by show 2 * 0 + _ ≤ _; exact Nat.le_of_eq rfl) (hb hby at_117) (fun _ _ => ⟨rfl, e115, (by decide : 8 + 0 ≤ _), (by decide : 4106 + 0 ≤ _)⟩)
      dsimp only [Pt.U, Pt.locs, Pt.cells, Pt.slots] at X116 l116 y116 z116 st116 hQ116
      subst l116 y116 z116
      obtain ⟨hv116, N116q, e116⟩ := hQ116
      rw [show f14 r101 p2 = p2 from rfl] at hv116
      subst hv116
      have N116 := Fr.app N114 N116q
      have h117 : p2 = p2 := rfl
      have h118 : ¬ ((2 : Int32) < (2 : Int32)) := by decide
      obtain ⟨cq119, kq119, q119a, q119b, q119c⟩ := isOf hZ e116 c114_0
      obtain ⟨_, _, ⟨T119, L119, k119, n119⟩, -, X119, ⟨Lc119, hQ119, l119, y119, z119⟩, st119⟩ := X116.interfaceBack hx (xi := (⟨"java/util/Iterator", "next", "()Ljava/lang/Object;"⟩ : MethodName)) (y := (⟨"com/example/apportion/apportion/AppendOnlyList$Prefix$1", "next", "()Ljava/lang/Object;"⟩ : MethodName)) hown (mvT hZ (hw _ (List.mem_of_getElem? (i := 94) rfl))) (mvT hZ (hw _ (List.mem_of_getElem? (i := 95) rfl))) (mvT hZ (hw _ (List.mem_of_getElem? (i := 96) rfl))) (mvT hZ (hw _ (List.mem_of_getElem? (i := 97) rfl))) (mvT hZ (hw _ (List.mem_of_getElem? (i := 98) rfl))) (mvT hZ (hw _ (List.mem_of_getElem? (i := 99) rfl))) (mvT hZ (hw _ (List.mem_of_getElem? (i := 100) rfl))) (mvT hZ (hw _ (List.mem_of_getElem? (i := 58) rfl))) (by decide) (backOf (W := 0) (rmnx12 l Z a0 hw [] r112 r106 t199 k_t199 t2102 k_t2102 r104 (.ref r101) (.ref r108) T114.heap n0 Z114 c114_0 ge112_r c114_1 c114_2 u114_8 u114_10 u114_9 u114_4 u114_1 u114_13 u114_5) hZ (hw _ (List.mem_of_getElem? (i := 101) rfl)) (hw _ (List.mem_of_getElem? (i := 44) rfl)) (by decide) (by decide)) q119a q119b q119c (g := (mkF m 134 #[.val (.int p1), .val (.int p2), .val (.int p3), .val (.int p4), .val (.int p5), .val (.int (2 : Int32)), .val (.int (1 : Int32)), .val (.ref o98), .val (.ref r106), .val (.ref r112)] [(.ref r112)])) rfl (by rw [hml]; rfl) (Steps.refl _) (argsL := []) (rest := []) (lenOf pd_10 rfl) rfl (by show 2 * 0 + _ ≤ _; exact Nat.le_of_eq rfl) (hb hby at_134) (fun _ _ => ⟨rfl, e116, (by decide : 8 + 0 ≤ _), (by decide : 4106 + 0 ≤ _)⟩)
      dsimp only [Pt.U, Pt.locs, Pt.cells, Pt.slots] at X119 l119 y119 z119 st119 hQ119
      subst l119 y119 z119
      obtain ⟨rfl, N119q, Kc119, c119_0, c119_1, c119_2⟩ := hQ119
      have N119 := Fr.app N116 N119q
      have u119_0 := u114_0.keep Kc119
      have u119_1 := u114_1.keep Kc119
      have u119_2 := u114_2.keep Kc119
      have u119_3 := u114_3.keep Kc119 (by simp only [List.mem_cons, List.not_mem_nil, or_false, not_or]; exact ne112_r_3)
      have u119_4 := u114_4.keep Kc119 (by simp only [List.mem_cons, List.not_mem_nil, or_false, not_or]; exact ne112_r_2)
      have u119_5 := u114_5.keep Kc119
      have u119_6 := u114_6.keep Kc119
      have u119_7 := u114_7.keep Kc119 (by simp only [List.mem_cons, List.not_mem_nil, or_false, not_or]; exact ne112_r_5)
      have u119_8 := u114_8.keep Kc119
      have u119_9 := u114_9.keep Kc119 (by simp only [List.mem_cons, List.not_mem_nil, or_false, not_or]; exact ne112_r_6)
      have u119_10 := u114_10.keep Kc119 (by simp only [List.mem_cons, List.not_mem_nil, or_false, not_or]; exact ne112_r_6)
      have u119_11 := u114_11.keep Kc119
      have u119_12 := u114_12.keep Kc119 (by simp only [List.mem_cons, List.not_mem_nil, or_false, not_or]; exact ne112_r_7)
      have u119_13 := u114_13.keep Kc119 (by simp only [List.mem_cons, List.not_mem_nil, or_false, not_or]; exact ne112_r_4)
      have u119_14 := u114_14.keep Kc119 (by simp only [List.mem_cons, List.not_mem_nil, or_false, not_or]; exact ne112_r_1)
      have u119_15 := u114_15.keep Kc119 (by simp only [List.mem_cons, List.not_mem_nil, or_false, not_or]; exact ne112_r_1)
      have u119_16 := c114_0.keep Kc119
      have OL119 := OL114.keep Kc119 (fun x hx => by cases List.mem_singleton.mp hx; exact ge112_r)
      have K119 := K114.trans Kc119 (fun x hx => by cases List.mem_singleton.mp hx; exact Or.inr sz112_r)
      have Z119 : n0 ≤ T119.heap.size := Nat.le_trans Z114 Kc119.1
      obtain ⟨T120, X120, e120, st120⟩ := castY X119 hx hZ hown (hw _ (List.mem_of_getElem? (i := 103) rfl)) rfl (Ins.self u119_6) (g := (mkF m 139 #[.val (.int p1), .val (.int p2), .val (.int p3), .val (.int p4), .val (.int p5), .val (.int (2 : Int32)), .val (.int (1 : Int32)), .val (.ref o98), .val (.ref r106), .val (.ref r112)] [(.ref r104)])) rfl rfl (hb hby at_139)
      obtain ⟨cq121, kq121, q121a, q121b, q121c⟩ := isOf hZ e120 u119_6
      obtain ⟨_, _, ⟨T121, L121, k121, n121⟩, -, X121, ⟨Lc121, hQ121, l121, y121, z121⟩, st121⟩ := X120.virtualBack hx (y := (⟨"java/lang/Integer", "intValue", "()I"⟩ : MethodName)) (z := (⟨"java/lang/Integer", "intValue", "()I"⟩ : MethodName)) hown (mvT hZ (hw _ (List.mem_of_getElem? (i := 104) rfl))) (mvT hZ (hw _ (List.mem_of_getElem? (i := 105) rfl))) (notFace_of_selects (args := #[]) (mvT hZ (hw _ (List.mem_of_getElem? (i := 107) rfl)))) (mvT hZ (hw _ (List.mem_of_getElem? (i := 107) rfl))) (mvT hZ (hw _ (List.mem_of_getElem? (i := 106) rfl))) (by decide) (backOf (W := 0) (rm14 l Z a0 hw [] r104 p3 T119.heap n0 Z119 u119_7) hZ (hw _ (List.mem_of_getElem? (i := 108) rfl)) (hw _ (List.mem_of_getElem? (i := 65) rfl)) (by decide) (by decide)) q121a q121c (g := (mkF m 142 #[.val (.int p1), .val (.int p2), .val (.int p3), .val (.int p4), .val (.int p5), .val (.int (2 : Int32)), .val (.int (1 : Int32)), .val (.ref o98), .val (.ref r106), .val (.ref r112)] [(.ref r104)])) rfl (by rw [hml]; rfl) (Steps.refl _) (argsL := []) (rest := []) (lenOf pd_5 rfl) rfl (by show 2 * 0 + _ ≤ _; exact Nat.le_of_eq rfl) (hb hby at_142) (fun _ _ => ⟨rfl, e120, (by decide : 8 + 0 ≤ _), (by decide : 4106 + 0 ≤ _)⟩)
      dsimp only [Pt.U, Pt.locs, Pt.cells, Pt.slots] at X121 l121 y121 z121 st121 hQ121
      subst l121 y121 z121
      obtain ⟨hv121, N121q, e121⟩ := hQ121
      rw [show f14 r104 p3 = p3 from rfl] at hv121
      subst hv121
      have N121 := Fr.app N119 N121q
      have h122 : p3 = p3 := rfl
      obtain ⟨cq123, kq123, q123a, q123b, q123c⟩ := isOf hZ e121 c119_0
      obtain ⟨_, _, ⟨T123, L123, k123, n123⟩, -, X123, ⟨Lc123, hQ123, l123, y123, z123⟩, st123⟩ := X121.interfaceBack hx (xi := (⟨"java/util/Iterator", "hasNext", "()Z"⟩ : MethodName)) (y := (⟨"com/example/apportion/apportion/AppendOnlyList$Prefix$1", "hasNext", "()Z"⟩ : MethodName)) hown (mvT hZ (hw _ (List.mem_of_getElem? (i := 51) rfl))) (mvT hZ (hw _ (List.mem_of_getElem? (i := 52) rfl))) (mvT hZ (hw _ (List.mem_of_getElem? (i := 53) rfl))) (mvT hZ (hw _ (List.mem_of_getElem? (i := 54) rfl))) (mvT hZ (hw _ (List.mem_of_getElem? (i := 55) rfl))) (mvT hZ (hw _ (List.mem_of_getElem? (i := 56) rfl))) (mvT hZ (hw _ (List.mem_of_getElem? (i := 57) rfl))) (mvT hZ (hw _ (List.mem_of_getElem? (i := 58) rfl))) (by decide) (backOf (W := 0) (rm8 l Z a0 hw [] r112 (2 : Int32) r106 (2 : Int32) T119.heap n0 Z119 c119_1 c119_2 u119_10) hZ (hw _ (List.mem_of_getElem? (i := 59) rfl)) (hw _ (List.mem_of_getElem? (i := 44) rfl)) (by decide) (by decide)) q123a q123b q123c (g := (mkF m 153 #[.val (.int p1), .val (.int p2), .val (.int p3), .val (.int p4), .val (.int p5), .val (.int (2 : Int32)), .val (.int (1 : Int32)), .val (.ref o98), .val (.ref r106), .val (.ref r112)] [(.ref r112)])) rfl (by rw [hml]; rfl) (Steps.refl _) (argsL := []) (rest := []) (lenOf pd_7 rfl) rfl (by show 2 * 0 + _ ≤ _; exact Nat.le_of_eq rfl) (hb hby at_153) (fun _ _ => ⟨rfl, e121, (by decide : 8 + 0 ≤ _), (by decide : 4106 + 0 ≤ _)⟩)
      dsimp only [Pt.U, Pt.locs, Pt.cells, Pt.slots] at X123 l123 y123 z123 st123 hQ123
      subst l123 y123 z123
      obtain ⟨hv123, N123q, e123⟩ := hQ123
      rw [show f8 r112 (2 : Int32) r106 (2 : Int32) = (0 : Int32) from if_neg (by decide)] at hv123
      subst hv123
      have N123 := Fr.app N121 N123q
      have h124 : (0 : Int32) = (0 : Int32) := by decide
      obtain ⟨fs, hr, hrun, hended, hW, hsame⟩ := X123.leave (v := some (.int (1 : Int32))) (fun h => by rw [Bd.returns] at h; cases h)
      refine ⟨_, _, ?_, hrun, hended, _, _, rfl, ?_, ⟨_, rfl⟩, hW, hsame.mono (by decide) (by decide)⟩
      · show Steps p.tables e below (s₁.setTop (mkF m 12 #[.val (.int p1), .val (.int p2), .val (.int p3), .val (.int p4), .val (.int p5), .val (.int (2 : Int32)), .unset, .unset, .unset, .unset] [(.int (p5 &&& (1 : Int32)))])) _
        refine XS.ifNo X0.here hx rfl (hb hby at_12) rfl ((if0 _ _).trans (feq h72).1) ?_
        show Steps p.tables e below (s₁.setTop (mkF m 15 #[.val (.int p1), .val (.int p2), .val (.int p3), .val (.int p4), .val (.int p5), .val (.int (2 : Int32)), .unset, .unset, .unset, .unset] [])) _
        refine XS.iconst X0.here hx rfl (hb hby at_15) ?_
        show Steps p.tables e below (s₁.setTop (mkF m 16 #[.val (.int p1), .val (.int p2), .val (.int p3), .val (.int p4), .val (.int p5), .val (.int (2 : Int32)), .unset, .unset, .unset, .unset] [(.int (1 : Int32))])) _
        refine XS.goto X0.here hx rfl (pc0 := 16) (pc' := 20) rfl (hb hby at_16) (by decide) (by decide) ?_
        show Steps p.tables e below (s₁.setTop (mkF m 20 #[.val (.int p1), .val (.int p2), .val (.int p3), .val (.int p4), .val (.int p5), .val (.int (2 : Int32)), .unset, .unset, .unset, .unset] [(.int (1 : Int32))])) _
        refine XS.istore X0.here hx rfl (hb hby at_20) rfl (l' := #[.val (.int p1), .val (.int p2), .val (.int p3), .val (.int p4), .val (.int p5), .val (.int (2 : Int32)), .val (.int (1 : Int32)), .unset, .unset, .unset]) rfl ?_
        show Steps p.tables e below (s₁.setTop (mkF m 22 #[.val (.int p1), .val (.int p2), .val (.int p3), .val (.int p4), .val (.int p5), .val (.int (2 : Int32)), .val (.int (1 : Int32)), .unset, .unset, .unset] [])) _
        refine st98 _ ?_
        show Steps p.tables e below (T98.setTop (mkF m 25 #[.val (.int p1), .val (.int p2), .val (.int p3), .val (.int p4), .val (.int p5), .val (.int (2 : Int32)), .val (.int (1 : Int32)), .unset, .unset, .unset] [(.ref o98)])) _
        refine XS.dup X98.here hx rfl (hb hby at_25) rfl rfl ?_
        show Steps p.tables e below (T98.setTop (mkF m 26 #[.val (.int p1), .val (.int p2), .val (.int p3), .val (.int p4), .val (.int p5), .val (.int (2 : Int32)), .val (.int (1 : Int32)), .unset, .unset, .unset] [(.ref o98), (.ref o98)])) _
        refine st99.trans ?_
        show Steps p.tables e below (T99.setTop (mkF m 29 #[.val (.int p1), .val (.int p2), .val (.int p3), .val (.int p4), .val (.int p5), .val (.int (2 : Int32)), .val (.int (1 : Int32)), .unset, .unset, .unset] [(.ref o98)])) _
        refine XS.astore X99.here hx rfl (hb hby at_29) rfl rfl (l' := #[.val (.int p1), .val (.int p2), .val (.int p3), .val (.int p4), .val (.int p5), .val (.int (2 : Int32)), .val (.int (1 : Int32)), .val (.ref o98), .unset, .unset]) rfl ?_
        show Steps p.tables e below (T99.setTop (mkF m 31 #[.val (.int p1), .val (.int p2), .val (.int p3), .val (.int p4), .val (.int p5), .val (.int (2 : Int32)), .val (.int (1 : Int32)), .val (.ref o98), .unset, .unset] [])) _
        refine XS.iload X99.here hx rfl (hb hby at_31) rfl ?_
        show Steps p.tables e below (T99.setTop (mkF m 33 #[.val (.int p1), .val (.int p2), .val (.int p3), .val (.int p4), .val (.int p5), .val (.int (2 : Int32)), .val (.int (1 : Int32)), .val (.ref o98), .unset, .unset] [(.int (2 : Int32))])) _
        refine XS.iconst X99.here hx rfl (hb hby at_33) ?_
        show Steps p.tables e below (T99.setTop (mkF m 34 #[.val (.int p1), .val (.int p2), .val (.int p3), .val (.int p4), .val (.int p5), .val (.int (2 : Int32)), .val (.int (1 : Int32)), .val (.ref o98), .unset, .unset] [(.int (1 : Int32)), (.int (2 : Int32))])) _
        refine XS.icmpNo X99.here hx rfl (hb hby at_34) rfl (flt h100).1 ?_
        show Steps p.tables e below (T99.setTop (mkF m 37 #[.val (.int p1), .val (.int p2), .val (.int p3), .val (.int p4), .val (.int p5), .val (.int (2 : Int32)), .val (.int (1 : Int32)), .val (.ref o98), .unset, .unset] [])) _
        refine XS.aload X99.here hx rfl (hb hby at_37) rfl rfl ?_
        show Steps p.tables e below (T99.setTop (mkF m 39 #[.val (.int p1), .val (.int p2), .val (.int p3), .val (.int p4), .val (.int p5), .val (.int (2 : Int32)), .val (.int (1 : Int32)), .val (.ref o98), .unset, .unset] [(.ref o98)])) _
        refine XS.iloadN X99.here hx rfl (hb hby at_39) rfl ?_
        show Steps p.tables e below (T99.setTop (mkF m 40 #[.val (.int p1), .val (.int p2), .val (.int p3), .val (.int p4), .val (.int p5), .val (.int (2 : Int32)), .val (.int (1 : Int32)), .val (.ref o98), .unset, .unset] [(.int p2), (.ref o98)])) _
        refine st101 _ ?_
        show Steps p.tables e below (T101.setTop (mkF m 43 #[.val (.int p1), .val (.int p2), .val (.int p3), .val (.int p4), .val (.int p5), .val (.int (2 : Int32)), .val (.int (1 : Int32)), .val (.ref o98), .unset, .unset] [(.ref r101), (.ref o98)])) _
        refine st102.trans ?_
        show Steps p.tables e below (T102.setTop (mkF m 46 #[.val (.int p1), .val (.int p2), .val (.int p3), .val (.int p4), .val (.int p5), .val (.int (2 : Int32)), .val (.int (1 : Int32)), .val (.ref o98), .unset, .unset] [])) _
        refine XS.iload X102.here hx rfl (hb hby at_46) rfl ?_
        show Steps p.tables e below (T102.setTop (mkF m 48 #[.val (.int p1), .val (.int p2), .val (.int p3), .val (.int p4), .val (.int p5), .val (.int (2 : Int32)), .val (.int (1 : Int32)), .val (.ref o98), .unset, .unset] [(.int (2 : Int32))])) _
        refine XS.iconst X102.here hx rfl (hb hby at_48) ?_
        show Steps p.tables e below (T102.setTop (mkF m 49 #[.val (.int p1), .val (.int p2), .val (.int p3), .val (.int p4), .val (.int p5), .val (.int (2 : Int32)), .val (.int (1 : Int32)), .val (.ref o98), .unset, .unset] [(.int (2 : Int32)), (.int (2 : Int32))])) _
        refine XS.icmpNo X102.here hx rfl (hb hby at_49) rfl (flt h103).1 ?_
        show Steps p.tables e below (T102.setTop (mkF m 52 #[.val (.int p1), .val (.int p2), .val (.int p3), .val (.int p4), .val (.int p5), .val (.int (2 : Int32)), .val (.int (1 : Int32)), .val (.ref o98), .unset, .unset] [])) _
        refine XS.aload X102.here hx rfl (hb hby at_52) rfl rfl ?_
        show Steps p.tables e below (T102.setTop (mkF m 54 #[.val (.int p1), .val (.int p2), .val (.int p3), .val (.int p4), .val (.int p5), .val (.int (2 : Int32)), .val (.int (1 : Int32)), .val (.ref o98), .unset, .unset] [(.ref o98)])) _
        refine XS.iloadN X102.here hx rfl (hb hby at_54) rfl ?_
        show Steps p.tables e below (T102.setTop (mkF m 55 #[.val (.int p1), .val (.int p2), .val (.int p3), .val (.int p4), .val (.int p5), .val (.int (2 : Int32)), .val (.int (1 : Int32)), .val (.ref o98), .unset, .unset] [(.int p3), (.ref o98)])) _
        refine st104 _ ?_
        show Steps p.tables e below (T104.setTop (mkF m 58 #[.val (.int p1), .val (.int p2), .val (.int p3), .val (.int p4), .val (.int p5), .val (.int (2 : Int32)), .val (.int (1 : Int32)), .val (.ref o98), .unset, .unset] [(.ref r104), (.ref o98)])) _
        refine st105.trans ?_
        show Steps p.tables e below (T105.setTop (mkF m 61 #[.val (.int p1), .val (.int p2), .val (.int p3), .val (.int p4), .val (.int p5), .val (.int (2 : Int32)), .val (.int (1 : Int32)), .val (.ref o98), .unset, .unset] [])) _
        refine XS.aload X105.here hx rfl (hb hby at_61) rfl rfl ?_
        show Steps p.tables e below (T105.setTop (mkF m 63 #[.val (.int p1), .val (.int p2), .val (.int p3), .val (.int p4), .val (.int p5), .val (.int (2 : Int32)), .val (.int (1 : Int32)), .val (.ref o98), .unset, .unset] [(.ref o98)])) _
        refine st106.trans ?_
        show Steps p.tables e below (T106.setTop (mkF m 66 #[.val (.int p1), .val (.int p2), .val (.int p3), .val (.int p4), .val (.int p5), .val (.int (2 : Int32)), .val (.int (1 : Int32)), .val (.ref o98), .unset, .unset] [(.ref r106)])) _
        refine XS.astore X106.here hx rfl (hb hby at_66) rfl rfl (l' := #[.val (.int p1), .val (.int p2), .val (.int p3), .val (.int p4), .val (.int p5), .val (.int (2 : Int32)), .val (.int (1 : Int32)), .val (.ref o98), .val (.ref r106), .unset]) rfl ?_
        show Steps p.tables e below (T106.setTop (mkF m 68 #[.val (.int p1), .val (.int p2), .val (.int p3), .val (.int p4), .val (.int p5), .val (.int (2 : Int32)), .val (.int (1 : Int32)), .val (.ref o98), .val (.ref r106), .unset] [])) _
        refine XS.iload X106.here hx rfl (hb hby at_68) rfl ?_
        show Steps p.tables e below (T106.setTop (mkF m 70 #[.val (.int p1), .val (.int p2), .val (.int p3), .val (.int p4), .val (.int p5), .val (.int (2 : Int32)), .val (.int (1 : Int32)), .val (.ref o98), .val (.ref r106), .unset] [(.int (1 : Int32))])) _
        refine XS.ifNo X106.here hx rfl (hb hby at_70) rfl ((if0 _ _).trans (feq h107).1) ?_
        show Steps p.tables e below (T106.setTop (mkF m 73 #[.val (.int p1), .val (.int p2), .val (.int p3), .val (.int p4), .val (.int p5), .val (.int (2 : Int32)), .val (.int (1 : Int32)), .val (.ref o98), .val (.ref r106), .unset] [])) _
        refine XS.aload X106.here hx rfl (hb hby at_73) rfl rfl ?_
        show Steps p.tables e below (T106.setTop (mkF m 75 #[.val (.int p1), .val (.int p2), .val (.int p3), .val (.int p4), .val (.int p5), .val (.int (2 : Int32)), .val (.int (1 : Int32)), .val (.ref o98), .val (.ref r106), .unset] [(.ref o98)])) _
        refine XS.iloadN X106.here hx rfl (hb hby at_75) rfl ?_
        show Steps p.tables e below (T106.setTop (mkF m 76 #[.val (.int p1), .val (.int p2), .val (.int p3), .val (.int p4), .val (.int p5), .val (.int (2 : Int32)), .val (.int (1 : Int32)), .val (.ref o98), .val (.ref r106), .unset] [(.int p4), (.ref o98)])) _
        refine st108 _ ?_
        show Steps p.tables e below (T108.setTop (mkF m 79 #[.val (.int p1), .val (.int p2), .val (.int p3), .val (.int p4), .val (.int p5), .val (.int (2 : Int32)), .val (.int (1 : Int32)), .val (.ref o98), .val (.ref r106), .unset] [(.ref r108), (.ref o98)])) _
        refine st109.trans ?_
        show Steps p.tables e below (T109.setTop (mkF m 82 #[.val (.int p1), .val (.int p2), .val (.int p3), .val (.int p4), .val (.int p5), .val (.int (2 : Int32)), .val (.int (1 : Int32)), .val (.ref o98), .val (.ref r106), .unset] [])) _
        refine XS.aload X109.here hx rfl (hb hby at_82) rfl rfl ?_
        show Steps p.tables e below (T109.setTop (mkF m 84 #[.val (.int p1), .val (.int p2), .val (.int p3), .val (.int p4), .val (.int p5), .val (.int (2 : Int32)), .val (.int (1 : Int32)), .val (.ref o98), .val (.ref r106), .unset] [(.ref r106)])) _
        refine st110.trans ?_
        show Steps p.tables e below (T110.setTop (mkF m 87 #[.val (.int p1), .val (.int p2), .val (.int p3), .val (.int p4), .val (.int p5), .val (.int (2 : Int32)), .val (.int (1 : Int32)), .val (.ref o98), .val (.ref r106), .unset] [(.int (2 : Int32))])) _
        refine XS.iload X110.here hx rfl (hb hby at_87) rfl ?_
        show Steps p.tables e below (T110.setTop (mkF m 89 #[.val (.int p1), .val (.int p2), .val (.int p3), .val (.int p4), .val (.int p5), .val (.int (2 : Int32)), .val (.int (1 : Int32)), .val (.ref o98), .val (.ref r106), .unset] [(.int (2 : Int32)), (.int (2 : Int32))])) _
        refine XS.icmpYes X110.here hx rfl (pc0 := 89) (pc' := 94) rfl (hb hby at_89) rfl (teq h111).1 (by decide) (by decide) ?_
        show Steps p.tables e below (T110.setTop (mkF m 94 #[.val (.int p1), .val (.int p2), .val (.int p3), .val (.int p4), .val (.int p5), .val (.int (2 : Int32)), .val (.int (1 : Int32)), .val (.ref o98), .val (.ref r106), .unset] [])) _
        refine XS.aload X110.here hx rfl (hb hby at_94) rfl rfl ?_
        show Steps p.tables e below (T110.setTop (mkF m 96 #[.val (.int p1), .val (.int p2), .val (.int p3), .val (.int p4), .val (.int p5), .val (.int (2 : Int32)), .val (.int (1 : Int32)), .val (.ref o98), .val (.ref r106), .unset] [(.ref r106)])) _
        refine st112.trans ?_
        show Steps p.tables e below (T112.setTop (mkF m 99 #[.val (.int p1), .val (.int p2), .val (.int p3), .val (.int p4), .val (.int p5), .val (.int (2 : Int32)), .val (.int (1 : Int32)), .val (.ref o98), .val (.ref r106), .unset] [(.ref r112)])) _
        refine XS.astore X112.here hx rfl (hb hby at_99) rfl rfl (l' := #[.val (.int p1), .val (.int p2), .val (.int p3), .val (.int p4), .val (.int p5), .val (.int (2 : Int32)), .val (.int (1 : Int32)), .val (.ref o98), .val (.ref r106), .val (.ref r112)]) rfl ?_
        show Steps p.tables e below (T112.setTop (mkF m 101 #[.val (.int p1), .val (.int p2), .val (.int p3), .val (.int p4), .val (.int p5), .val (.int (2 : Int32)), .val (.int (1 : Int32)), .val (.ref o98), .val (.ref r106), .val (.ref r112)] [])) _
        refine XS.iload X112.here hx rfl (hb hby at_101) rfl ?_
        show Steps p.tables e below (T112.setTop (mkF m 103 #[.val (.int p1), .val (.int p2), .val (.int p3), .val (.int p4), .val (.int p5), .val (.int (2 : Int32)), .val (.int (1 : Int32)), .val (.ref o98), .val (.ref r106), .val (.ref r112)] [(.int (2 : Int32))])) _
        refine XS.iconst X112.here hx rfl (hb hby at_103) ?_
        show Steps p.tables e below (T112.setTop (mkF m 104 #[.val (.int p1), .val (.int p2), .val (.int p3), .val (.int p4), .val (.int p5), .val (.int (2 : Int32)), .val (.int (1 : Int32)), .val (.ref o98), .val (.ref r106), .val (.ref r112)] [(.int (1 : Int32)), (.int (2 : Int32))])) _
        refine XS.icmpNo X112.here hx rfl (hb hby at_104) rfl (flt h113).1 ?_
        show Steps p.tables e below (T112.setTop (mkF m 107 #[.val (.int p1), .val (.int p2), .val (.int p3), .val (.int p4), .val (.int p5), .val (.int (2 : Int32)), .val (.int (1 : Int32)), .val (.ref o98), .val (.ref r106), .val (.ref r112)] [])) _
        refine XS.aload X112.here hx rfl (hb hby at_107) rfl rfl ?_
        show Steps p.tables e below (T112.setTop (mkF m 109 #[.val (.int p1), .val (.int p2), .val (.int p3), .val (.int p4), .val (.int p5), .val (.int (2 : Int32)), .val (.int (1 : Int32)), .val (.ref o98), .val (.ref r106), .val (.ref r112)] [(.ref r112)])) _
        refine st114.trans ?_
        show Steps p.tables e below (T114.setTop (mkF m 114 #[.val (.int p1), .val (.int p2), .val (.int p3), .val (.int p4), .val (.int p5), .val (.int (2 : Int32)), .val (.int (1 : Int32)), .val (.ref o98), .val (.ref r106), .val (.ref r112)] [(.ref r101)])) _
        refine st115 _ ?_
        show Steps p.tables e below (T115.setTop (mkF m 117 #[.val (.int p1), .val (.int p2), .val (.int p3), .val (.int p4), .val (.int p5), .val (.int (2 : Int32)), .val (.int (1 : Int32)), .val (.ref o98), .val (.ref r106), .val (.ref r112)] [(.ref r101)])) _
        refine st116.trans ?_
        show Steps p.tables e below (T116.setTop (mkF m 120 #[.val (.int p1), .val (.int p2), .val (.int p3), .val (.int p4), .val (.int p5), .val (.int (2 : Int32)), .val (.int (1 : Int32)), .val (.ref o98), .val (.ref r106), .val (.ref r112)] [(.int p2)])) _
        refine XS.iloadN X116.here hx rfl (hb hby at_120) rfl ?_
        show Steps p.tables e below (T116.setTop (mkF m 121 #[.val (.int p1), .val (.int p2), .val (.int p3), .val (.int p4), .val (.int p5), .val (.int (2 : Int32)), .val (.int (1 : Int32)), .val (.ref o98), .val (.ref r106), .val (.ref r112)] [(.int p2), (.int p2)])) _
        refine XS.icmpYes X116.here hx rfl (pc0 := 121) (pc' := 126) rfl (hb hby at_121) rfl (teq h117).1 (by decide) (by decide) ?_
        show Steps p.tables e below (T116.setTop (mkF m 126 #[.val (.int p1), .val (.int p2), .val (.int p3), .val (.int p4), .val (.int p5), .val (.int (2 : Int32)), .val (.int (1 : Int32)), .val (.ref o98), .val (.ref r106), .val (.ref r112)] [])) _
        refine XS.iload X116.here hx rfl (hb hby at_126) rfl ?_
        show Steps p.tables e below (T116.setTop (mkF m 128 #[.val (.int p1), .val (.int p2), .val (.int p3), .val (.int p4), .val (.int p5), .val (.int (2 : Int32)), .val (.int (1 : Int32)), .val (.ref o98), .val (.ref r106), .val (.ref r112)] [(.int (2 : Int32))])) _
        refine XS.iconst X116.here hx rfl (hb hby at_128) ?_
        show Steps p.tables e below (T116.setTop (mkF m 129 #[.val (.int p1), .val (.int p2), .val (.int p3), .val (.int p4), .val (.int p5), .val (.int (2 : Int32)), .val (.int (1 : Int32)), .val (.ref o98), .val (.ref r106), .val (.ref r112)] [(.int (2 : Int32)), (.int (2 : Int32))])) _
        refine XS.icmpNo X116.here hx rfl (hb hby at_129) rfl (flt h118).1 ?_
        show Steps p.tables e below (T116.setTop (mkF m 132 #[.val (.int p1), .val (.int p2), .val (.int p3), .val (.int p4), .val (.int p5), .val (.int (2 : Int32)), .val (.int (1 : Int32)), .val (.ref o98), .val (.ref r106), .val (.ref r112)] [])) _
        refine XS.aload X116.here hx rfl (hb hby at_132) rfl rfl ?_
        show Steps p.tables e below (T116.setTop (mkF m 134 #[.val (.int p1), .val (.int p2), .val (.int p3), .val (.int p4), .val (.int p5), .val (.int (2 : Int32)), .val (.int (1 : Int32)), .val (.ref o98), .val (.ref r106), .val (.ref r112)] [(.ref r112)])) _
        refine st119.trans ?_
        show Steps p.tables e below (T119.setTop (mkF m 139 #[.val (.int p1), .val (.int p2), .val (.int p3), .val (.int p4), .val (.int p5), .val (.int (2 : Int32)), .val (.int (1 : Int32)), .val (.ref o98), .val (.ref r106), .val (.ref r112)] [(.ref r104)])) _
        refine st120 _ ?_
        show Steps p.tables e below (T120.setTop (mkF m 142 #[.val (.int p1), .val (.int p2), .val (.int p3), .val (.int p4), .val (.int p5), .val (.int (2 : Int32)), .val (.int (1 : Int32)), .val (.ref o98), .val (.ref r106), .val (.ref r112)] [(.ref r104)])) _
        refine st121.trans ?_
        show Steps p.tables e below (T121.setTop (mkF m 145 #[.val (.int p1), .val (.int p2), .val (.int p3), .val (.int p4), .val (.int p5), .val (.int (2 : Int32)), .val (.int (1 : Int32)), .val (.ref o98), .val (.ref r106), .val (.ref r112)] [(.int p3)])) _
        refine XS.iloadN X121.here hx rfl (hb hby at_145) rfl ?_
        show Steps p.tables e below (T121.setTop (mkF m 146 #[.val (.int p1), .val (.int p2), .val (.int p3), .val (.int p4), .val (.int p5), .val (.int (2 : Int32)), .val (.int (1 : Int32)), .val (.ref o98), .val (.ref r106), .val (.ref r112)] [(.int p3), (.int p3)])) _
        refine XS.icmpYes X121.here hx rfl (pc0 := 146) (pc' := 151) rfl (hb hby at_146) rfl (teq h122).1 (by decide) (by decide) ?_
        show Steps p.tables e below (T121.setTop (mkF m 151 #[.val (.int p1), .val (.int p2), .val (.int p3), .val (.int p4), .val (.int p5), .val (.int (2 : Int32)), .val (.int (1 : Int32)), .val (.ref o98), .val (.ref r106), .val (.ref r112)] [])) _
        refine XS.aload X121.here hx rfl (hb hby at_151) rfl rfl ?_
        show Steps p.tables e below (T121.setTop (mkF m 153 #[.val (.int p1), .val (.int p2), .val (.int p3), .val (.int p4), .val (.int p5), .val (.int (2 : Int32)), .val (.int (1 : Int32)), .val (.ref o98), .val (.ref r106), .val (.ref r112)] [(.ref r112)])) _
        refine st123.trans ?_
        show Steps p.tables e below (T123.setTop (mkF m 158 #[.val (.int p1), .val (.int p2), .val (.int p3), .val (.int p4), .val (.int p5), .val (.int (2 : Int32)), .val (.int (1 : Int32)), .val (.ref o98), .val (.ref r106), .val (.ref r112)] [(.int (0 : Int32))])) _
        refine XS.ifNo X123.here hx rfl (hb hby at_158) rfl ((if0 _ _).trans (teq h124).2) ?_
        show Steps p.tables e below (T123.setTop (mkF m 161 #[.val (.int p1), .val (.int p2), .val (.int p3), .val (.int p4), .val (.int p5), .val (.int (2 : Int32)), .val (.int (1 : Int32)), .val (.ref o98), .val (.ref r106), .val (.ref r112)] [])) _
        refine XS.iconst X123.here hx rfl (hb hby at_161) ?_
        show Steps p.tables e below (T123.setTop (mkF m 162 #[.val (.int p1), .val (.int p2), .val (.int p3), .val (.int p4), .val (.int p5), .val (.int (2 : Int32)), .val (.int (1 : Int32)), .val (.ref o98), .val (.ref r106), .val (.ref r112)] [(.int (1 : Int32))])) _
        refine XS.goto X123.here hx rfl (pc0 := 162) (pc' := 166) rfl (hb hby at_162) (by decide) (by decide) ?_
        show Steps p.tables e below (T123.setTop (mkF m 166 #[.val (.int p1), .val (.int p2), .val (.int p3), .val (.int p4), .val (.int p5), .val (.int (2 : Int32)), .val (.int (1 : Int32)), .val (.ref o98), .val (.ref r106), .val (.ref r112)] [(.int (1 : Int32))])) _
        exact retN X123 hx (t := .boolean) Bd.returns (by simp) (hb hby at_166) hr
      · show Q0 Z p1 p2 p3 p4 p5 h0 n0 _ T123.heap _
        rw [e123]
        exact ⟨rfl, N123⟩
set_option maxRecDepth 65536 in
set_option maxHeartbeats 40000000 in
theorem comes_1 {Post : Tables → Env → Array Value → State → Outcome → State → Prop} (hpost : ∀ tb e args s v u, (limb_1_1.after args s (.returned v) u = true ∧ limb_1_2.after args s (.returned v) u = true ∧ True) → FrameEnd s (.returned v) u (Jvm.fieldLocs frame_1_writes args s ++ Jvm.arrayLocs frame_1_arrays args s ++ Jvm.staticLocs frame_1_statics s) 24 8320 → Post tb e args s (.returned v) u) :
    ArmFor flags0 classFile x code maxLocals ret World_1 tables_1 room_1 Calls_1 rest_1 Pre_1 Post := by
  intro l hfl _ _ p e ha hc hk s m args below hf hA hF happ hP
  obtain ⟨hcalls, hrest, hpre⟩ := hP
  obtain ⟨-, -, -, hnamed, -, -, -, hat⟩ := (Spec.applies_iff hf).mp happ
  obtain ⟨hg, hn⟩ := and_e (Cond.before_iff.mp (show (Jvm.Cond.and given_1 narrow_1).before args s = true from hpre))
  obtain ⟨hcnt, hg0⟩ := and_e hg
  obtain ⟨hi0, hg1⟩ := and_e hg0
  obtain ⟨hi1, hg2⟩ := and_e hg1
  obtain ⟨hi2, hg3⟩ := and_e hg2
  obtain ⟨hi3, hg4⟩ := and_e hg3
  obtain ⟨w0, w1, w2, w3, w4, rfl⟩ : ∃ w0 w1 w2 w3 w4 : Value, args = #[w0, w1, w2, w3, w4] := by
    have hs : args.size = 5 := by simpa [Cond.value, given_1] using hcnt
    obtain ⟨L⟩ := args
    match L, hs with
    | [w0, w1, w2, w3, w4], _ => exact ⟨w0, w1, w2, w3, w4, rfl⟩
  have hw := fun d (hd : d ∈ tables_1) => atoms_spec (ws := Jvm.Cond.code x code maxLocals ret :: tables_1) hat d (List.mem_cons_of_mem _ hd)
  have hfit : Fit s := fun {y c} hc i hi => by
    obtain ⟨ha, rfl⟩ := Array.getElem?_eq_some_iff.mp hc
    have q := List.all_eq_true.mp ((Array.all_eq_true_iff_forall_mem.mp hF) _ (Array.getElem_mem ha)) i (List.mem_range.mpr hi)
    simpa [Array.getElem?_eq_getElem hi] using q
  obtain ⟨i0, ei0⟩ := is_v hi0
  obtain rfl : w0 = (.int i0) := Option.some.inj ei0
  obtain ⟨i1, ei1⟩ := is_v hi1
  obtain rfl : w1 = (.int i1) := Option.some.inj ei1
  obtain ⟨i2, ei2⟩ := is_v hi2
  obtain rfl : w2 = (.int i2) := Option.some.inj ei2
  obtain ⟨i3, ei3⟩ := is_v hi3
  obtain rfl : w3 = (.int i3) := Option.some.inj ei3
  obtain ⟨i4, ei4⟩ := is_v hg4
  obtain rfl : w4 = (.int i4) := Option.some.inj ei4
  obtain ⟨hsets, -⟩ := atoms_of _ (rest_1_c_eq ▸ (show rest_1_c.before _ s = true from hrest))
  have hC := own_cache (hw _ (List.mem_of_getElem? (i := 68) rfl)) hsets
  obtain ⟨n, o, h1, h2, h3, _, L, rfl, ⟨rfl, N⟩, hq⟩ := rm0 l s _ hw tables_1 i0 i1 i2 i3 i4 s.heap s.heap.size (Nat.le_refl _) (Old.start s) hC p e ha hc hk s m _ below hf ((Spec.applies_iff_loose hf).mp happ).1 ⟨rfl, State.Warmed39.refl s, rfl⟩ trivial
  refine ⟨n, _, h1, h2, h3, hpost _ _ _ _ _ _ ⟨Cond.after_iff.mpr rfl, Cond.after_iff.mpr (eq_i res_at (Term.int_eval (1)) rfl), trivial⟩ ⟨hq.1, hq.2.1, (hq.2.2.sift fun y hy => Or.inr (N y hy)).mono (by decide) (by decide)⟩⟩
theorem main_1_1 : Claimed_1_1 := comes_1 fun _ _ _ _ _ _ h hF => ⟨h.1, hF⟩
theorem main_1_2 : Claimed_1_2 := comes_1 fun _ _ _ _ _ _ h hF => ⟨h.2.1, hF⟩
end Jvm.Pilot.@@N@@
namespace Jvm.Pilot.@@N@@
open Jvm Jvm.ClassFile Sem Op Lib Jvm.Free Jvm.Stand Jvm.Pilot.@@N@@.Jvm.D
/-! MADE BY PROGRAM (witnessworld.py) out of the Statement's table words and the real class files: 21 classes; the members and pool entries that the words name. The judged class is class 1, her method 1. -/
namespace start1
open Jvm.ClassFile
def u (s : String) : CpInfo := .utf8 (stringToUtf16 s)
/-- a pool by its gaps: so many unusable entries, then the entry; so many at the end -/
def gap : Nat → List CpInfo → List CpInfo
  | 0, r => r
  | n + 1, r => .unusable :: gap n r
def poolList (es : List (Nat × CpInfo)) (last : Nat) : List CpInfo := es.foldr (fun e r => gap e.1 (e.2 :: r)) (gap last [])
def pool (es : List (Nat × CpInfo)) (last : Nat) : Array CpInfo := ⟨poolList es last⟩
def fileOf (pool : Array CpInfo) (this : Nat) (attrs : Array Attribute := #[]) (ms : Array MethodInfo := #[]) (fl : Nat := 33) (sup : Nat := 0) (ifs : Array Nat := #[]) (fds : Array FieldInfo := #[]) : ClassFile where
  minorVersion := 0
  majorVersion := 65
  constantPool := pool
  accessFlags := fl
  thisClass := this
  superClass := sup
  interfaces := ifs
  fields := fds
  methods := ms
  attributes := attrs
def plain (name : String) (sup : Option ClassId) : Class where
  name := name
  kind := .ordinary
  loader := none
  accessFlags := 33
  super := sup
  interfaces := #[]
  cf := none
  fields := #[]
  methods := #[]
  instanceTypes := #[]
  staticTypes := #[]
  resolved := #[]
  callSites := []
  init := .initialized
  statics := none
  mirror := none

def pool0 : Array CpInfo := pool [(5, u "<init>"), (0, u "()V"), (1, .class_ 10), (1, u "java/lang/Object")] 113

def k0c0 : Code := { maxStack := 0, maxLocals := 1, code := object_method_1_code, exceptionTable := #[], attributes := #[] }
def k0m0 : Method := { name := "<init>", desc := "()V", sig := { parameters := [], returnType := none }, accessFlags := 1, code := some k0c0 }
/-- java/lang/Object -/
def k0 : Class := { plain "java/lang/Object" none with
  accessFlags := 33
  interfaces := #[]
  cf := some (fileOf pool0 8 #[] #[{ accessFlags := 1, nameIndex := 5, descriptorIndex := 6, attributes := #[] }] 33 0 #[] #[])
  fields := #[]
  methods := #[k0m0]
  instanceTypes := #[]
  staticTypes := #[]
  resolved := Array.replicate 124 none
  statics := none }

def pool1 : Array CpInfo := pool [(2, .class_ 4), (0, .nameAndType 5 6), (0, u "java/lang/Object"), (0, u "<init>"), (0, u "()V"), (0, .integer 2147483647), (0, .class_ 9), (0, u "com/example/apportion/apportion/AppendOnlyList"), (0, .methodref 8 3), (0, .methodref 12 13), (0, .class_ 14), (0, .nameAndType 15 16), (0, u "java/lang/Integer"), (0, u "valueOf"), (0, u "(I)Ljava/lang/Integer;"), (0, .methodref 8 18), (0, .nameAndType 19 20), (0, u "add"), (0, u "(Ljava/lang/Object;)V"), (0, .methodref 8 22), (0, .nameAndType 23 24), (0, u "prefix"), (0, u "()Lcom/example/apportion/apportion/AppendOnlyList$Prefix;"), (0, .methodref 26 27), (0, .class_ 28), (0, .nameAndType 29 30), (0, u "com/example/apportion/apportion/AppendOnlyList$Prefix"), (0, u "size"), (0, u "()I"), (0, .methodref 26 32), (0, .nameAndType 33 34), (0, u "iterator"), (0, u "()Ljava/util/Iterator;"), (0, .interfaceMethodref 36 37), (0, .class_ 38), (0, .nameAndType 39 40), (0, u "java/util/Iterator"), (0, u "next"), (0, u "()Ljava/lang/Object;"), (0, .methodref 12 42), (0, .nameAndType 43 30), (0, u "intValue"), (0, .interfaceMethodref 36 45), (0, .nameAndType 46 47), (0, u "hasNext"), (0, u "()Z"), (0, .class_ 49), (0, u "com/example/apportion/apportion/AppendOnlyListPrefixPinLaw"), (2, u "law"), (0, u "(IIIII)Z")] 5

def k1m0 : Method := { name := "<init>", desc := "()V", sig := { parameters := [], returnType := none }, accessFlags := 1, code := none }
def k1c1 : Code := { maxStack := 2, maxLocals := 10, code := code, exceptionTable := #[], attributes := #[] }
def k1m1 : Method := { name := "law", desc := "(IIIII)Z", sig := { parameters := [.int, .int, .int, .int, .int], returnType := some .boolean }, accessFlags := 9, code := some k1c1 }
/-- com/example/apportion/apportion/AppendOnlyListPrefixPinLaw -/
def k1 : Class := { plain "com/example/apportion/apportion/AppendOnlyListPrefixPinLaw" (some 0) with
  accessFlags := 49
  interfaces := #[]
  cf := some (fileOf pool1 48 #[] #[{ accessFlags := 1, nameIndex := 5, descriptorIndex := 6, attributes := #[] }, { accessFlags := 9, nameIndex := 52, descriptorIndex := 53, attributes := #[] }] 49 2 #[] #[])
  fields := #[]
  methods := #[k1m0, k1m1]
  instanceTypes := #[]
  staticTypes := #[]
  resolved := Array.replicate 59 none
  statics := none }

def pool2 : Array CpInfo := pool [(1, .class_ 2), (0, u "com/example/apportion/apportion/AppendOnlyList"), (0, .methodref 4 5), (0, .class_ 6), (0, .nameAndType 7 8), (0, u "java/lang/Object"), (0, u "<init>"), (0, u "()V"), (0, .class_ 10), (0, u "[Ljava/lang/Object;"), (0, .fieldref 1 12), (0, .nameAndType 13 14), (0, u "chunks"), (0, u "[[Ljava/lang/Object;"), (0, .fieldref 1 16), (0, .nameAndType 17 18), (0, u "size"), (0, u "I"), (7, .class_ 27), (0, u "com/example/apportion/apportion/AppendOnlyList$Prefix"), (0, .methodref 26 29), (0, .nameAndType 7 30), (0, u "([[Ljava/lang/Object;I)V"), (0, u "CHUNK_BITS"), (2, u "CHUNK_SIZE"), (3, u "add"), (0, u "(Ljava/lang/Object;)V"), (3, u "prefix"), (0, u "()Lcom/example/apportion/apportion/AppendOnlyList$Prefix;"), (5, .class_ 51), (0, u "com/example/apportion/apportion/AppendOnlyList$Prefix$1")] 2

def k2c0 : Code := { maxStack := 2, maxLocals := 1, code := prog_1_method_1_code, exceptionTable := #[], attributes := #[] }
def k2m0 : Method := { name := "<init>", desc := "()V", sig := { parameters := [], returnType := none }, accessFlags := 0, code := some k2c0 }
def k2c1 : Code := { maxStack := 4, maxLocals := 3, code := prog_1_method_2_code, exceptionTable := #[], attributes := #[] }
def k2m1 : Method := { name := "add", desc := "(Ljava/lang/Object;)V", sig := { parameters := [(.object "java/lang/Object")], returnType := none }, accessFlags := 0, code := some k2c1 }
def k2c2 : Code := { maxStack := 4, maxLocals := 1, code := prog_1_method_3_code, exceptionTable := #[], attributes := #[] }
def k2m2 : Method := { name := "prefix", desc := "()Lcom/example/apportion/apportion/AppendOnlyList$Prefix;", sig := { parameters := [], returnType := some (.object "com/example/apportion/apportion/AppendOnlyList$Prefix") }, accessFlags := 0, code := some k2c2 }
/-- com/example/apportion/apportion/AppendOnlyList -/
def k2 : Class := { plain "com/example/apportion/apportion/AppendOnlyList" (some 0) with
  accessFlags := 48
  interfaces := #[]
  cf := some (fileOf pool2 1 #[.nestMembers #[26, 50]] #[{ accessFlags := 0, nameIndex := 7, descriptorIndex := 8, attributes := #[] }, { accessFlags := 0, nameIndex := 38, descriptorIndex := 39, attributes := #[] }, { accessFlags := 0, nameIndex := 43, descriptorIndex := 44, attributes := #[] }] 48 4 #[] #[{ accessFlags := 26, nameIndex := 31, descriptorIndex := 18, attributes := #[] }, { accessFlags := 24, nameIndex := 34, descriptorIndex := 18, attributes := #[] }, { accessFlags := 2, nameIndex := 13, descriptorIndex := 14, attributes := #[] }, { accessFlags := 2, nameIndex := 17, descriptorIndex := 18, attributes := #[] }])
  fields := #[{ name := "CHUNK_BITS", type := .int, accessFlags := 26, slot := 0, constantValue := 0 }, { name := "CHUNK_SIZE", type := .int, accessFlags := 24, slot := 1, constantValue := 0 }, { name := "chunks", type := (.array (.array (.object "java/lang/Object"))), accessFlags := 2, slot := 0, constantValue := 0 }, { name := "size", type := .int, accessFlags := 2, slot := 1, constantValue := 0 }]
  methods := #[k2m0, k2m1, k2m2]
  instanceTypes := #[(.array (.array (.object "java/lang/Object"))), .int]
  staticTypes := #[.int, .int]
  resolved := ((Array.replicate 54 none).set! 26 (some (.cls 4))).set! 28 (some (.method ⟨4, 0⟩))
  statics := none }

def pool3 : Array CpInfo := pool [(8, .class_ 10), (1, u "java/lang/Iterable"), (24, .class_ 36), (0, u "java/lang/Object")] 25

/-- java/lang/Iterable -/
def k3 : Class := { plain "java/lang/Iterable" (some 0) with
  accessFlags := 1537
  interfaces := #[]
  cf := some (fileOf pool3 8 #[] #[] 1537 35 #[] #[])
  fields := #[]
  methods := #[]
  instanceTypes := #[]
  staticTypes := #[]
  resolved := Array.replicate 62 none
  statics := none }

def pool4 : Array CpInfo := pool [(1, .methodref 2 3), (0, .class_ 4), (0, .nameAndType 5 6), (0, u "java/lang/Object"), (0, u "<init>"), (0, u "()V"), (0, .fieldref 8 9), (0, .class_ 10), (0, .nameAndType 11 12), (0, u "com/example/apportion/apportion/AppendOnlyList$Prefix"), (0, u "chunks"), (0, u "[[Ljava/lang/Object;"), (0, .fieldref 8 14), (0, .nameAndType 15 16), (0, u "size"), (0, u "I"), (0, .class_ 18), (0, u "com/example/apportion/apportion/AppendOnlyList$Prefix$1"), (0, .methodref 17 20), (0, .nameAndType 5 21), (0, u "(Lcom/example/apportion/apportion/AppendOnlyList$Prefix;)V"), (0, .class_ 23), (0, u "java/lang/Iterable"), (0, u "([[Ljava/lang/Object;I)V"), (2, u "()I"), (0, u "iterator"), (0, u "()Ljava/util/Iterator;"), (6, .class_ 37), (0, u "com/example/apportion/apportion/AppendOnlyList")] 2

def k4c0 : Code := { maxStack := 2, maxLocals := 3, code := prog_2_method_1_code, exceptionTable := #[], attributes := #[] }
def k4m0 : Method := { name := "<init>", desc := "([[Ljava/lang/Object;I)V", sig := { parameters := [(.array (.array (.object "java/lang/Object"))), .int], returnType := none }, accessFlags := 2, code := some k4c0 }
def k4c1 : Code := { maxStack := 1, maxLocals := 1, code := prog_2_method_2_code, exceptionTable := #[], attributes := #[] }
def k4m1 : Method := { name := "size", desc := "()I", sig := { parameters := [], returnType := some .int }, accessFlags := 0, code := some k4c1 }
def k4c2 : Code := { maxStack := 3, maxLocals := 1, code := prog_2_method_3_code, exceptionTable := #[], attributes := #[] }
def k4m2 : Method := { name := "iterator", desc := "()Ljava/util/Iterator;", sig := { parameters := [], returnType := some (.object "java/util/Iterator") }, accessFlags := 1, code := some k4c2 }
/-- com/example/apportion/apportion/AppendOnlyList$Prefix -/
def k4 : Class := { plain "com/example/apportion/apportion/AppendOnlyList$Prefix" (some 0) with
  accessFlags := 48
  interfaces := #[3]
  cf := some (fileOf pool4 8 #[.nestHost 36] #[{ accessFlags := 2, nameIndex := 5, descriptorIndex := 24, attributes := #[] }, { accessFlags := 0, nameIndex := 15, descriptorIndex := 27, attributes := #[] }, { accessFlags := 1, nameIndex := 28, descriptorIndex := 29, attributes := #[] }] 48 2 #[22] #[{ accessFlags := 18, nameIndex := 11, descriptorIndex := 12, attributes := #[] }, { accessFlags := 18, nameIndex := 15, descriptorIndex := 16, attributes := #[] }])
  fields := #[{ name := "chunks", type := (.array (.array (.object "java/lang/Object"))), accessFlags := 18, slot := 0, constantValue := 0 }, { name := "size", type := .int, accessFlags := 18, slot := 1, constantValue := 0 }]
  methods := #[k4m0, k4m1, k4m2]
  instanceTypes := #[(.array (.array (.object "java/lang/Object"))), .int]
  staticTypes := #[]
  resolved := Array.replicate 40 none
  statics := none }

def pool5 : Array CpInfo := pool [(16, .class_ 18), (1, u "java/util/Iterator"), (0, u "hasNext"), (0, u "()Z"), (2, u "next"), (0, u "()Ljava/lang/Object;"), (6, .class_ 32), (0, u "java/lang/Object")] 20

def k5m0 : Method := { name := "hasNext", desc := "()Z", sig := { parameters := [], returnType := some .boolean }, accessFlags := 1025, code := none }
def k5m1 : Method := { name := "next", desc := "()Ljava/lang/Object;", sig := { parameters := [], returnType := some (.object "java/lang/Object") }, accessFlags := 1025, code := none }
/-- java/util/Iterator -/
def k5 : Class := { plain "java/util/Iterator" (some 0) with
  accessFlags := 1537
  interfaces := #[]
  cf := some (fileOf pool5 16 #[] #[{ accessFlags := 1025, nameIndex := 19, descriptorIndex := 20, attributes := #[] }, { accessFlags := 1025, nameIndex := 23, descriptorIndex := 24, attributes := #[] }] 1537 31 #[] #[])
  fields := #[]
  methods := #[k5m0, k5m1]
  instanceTypes := #[]
  staticTypes := #[]
  resolved := Array.replicate 53 none
  statics := none }

def pool6 : Array CpInfo := pool [(1, .class_ 2), (0, u "com/example/apportion/apportion/AppendOnlyList"), (0, .fieldref 4 5), (0, .class_ 6), (0, .nameAndType 7 8), (0, u "com/example/apportion/apportion/AppendOnlyList$Prefix$1"), (0, u "this$0"), (0, u "Lcom/example/apportion/apportion/AppendOnlyList$Prefix;"), (0, .methodref 10 11), (0, .class_ 12), (0, .nameAndType 13 14), (0, u "java/lang/Object"), (0, u "<init>"), (0, u "()V"), (0, .fieldref 4 16), (0, .nameAndType 17 18), (0, u "next"), (0, u "I"), (0, .fieldref 20 21), (0, .class_ 22), (0, .nameAndType 23 18), (0, u "com/example/apportion/apportion/AppendOnlyList$Prefix"), (0, u "size"), (3, .fieldref 20 28), (0, .nameAndType 29 30), (0, u "chunks"), (0, u "[[Ljava/lang/Object;"), (0, .class_ 32), (0, u "java/util/Iterator"), (0, u "(Lcom/example/apportion/apportion/AppendOnlyList$Prefix;)V"), (3, u "hasNext"), (0, u "()Z"), (1, u "()Ljava/lang/Object;")] 12

def k6c0 : Code := { maxStack := 2, maxLocals := 2, code := prog_3_method_1_code, exceptionTable := #[], attributes := #[] }
def k6m0 : Method := { name := "<init>", desc := "(Lcom/example/apportion/apportion/AppendOnlyList$Prefix;)V", sig := { parameters := [(.object "com/example/apportion/apportion/AppendOnlyList$Prefix")], returnType := none }, accessFlags := 0, code := some k6c0 }
def k6c1 : Code := { maxStack := 2, maxLocals := 1, code := prog_3_method_2_code, exceptionTable := #[], attributes := #[] }
def k6m1 : Method := { name := "hasNext", desc := "()Z", sig := { parameters := [], returnType := some .boolean }, accessFlags := 1, code := some k6c1 }
def k6c2 : Code := { maxStack := 3, maxLocals := 2, code := prog_3_method_3_code, exceptionTable := #[], attributes := #[] }
def k6m2 : Method := { name := "next", desc := "()Ljava/lang/Object;", sig := { parameters := [], returnType := some (.object "java/lang/Object") }, accessFlags := 1, code := some k6c2 }
/-- com/example/apportion/apportion/AppendOnlyList$Prefix$1 -/
def k6 : Class := { plain "com/example/apportion/apportion/AppendOnlyList$Prefix$1" (some 0) with
  accessFlags := 32
  interfaces := #[5]
  cf := some (fileOf pool6 4 #[.nestHost 1] #[{ accessFlags := 0, nameIndex := 13, descriptorIndex := 33, attributes := #[] }, { accessFlags := 1, nameIndex := 37, descriptorIndex := 38, attributes := #[] }, { accessFlags := 1, nameIndex := 17, descriptorIndex := 40, attributes := #[] }] 32 10 #[31] #[{ accessFlags := 2, nameIndex := 17, descriptorIndex := 18, attributes := #[] }, { accessFlags := 4112, nameIndex := 7, descriptorIndex := 8, attributes := #[] }])
  fields := #[{ name := "next", type := .int, accessFlags := 2, slot := 0, constantValue := 0 }, { name := "this$0", type := (.object "com/example/apportion/apportion/AppendOnlyList$Prefix"), accessFlags := 4112, slot := 1, constantValue := 0 }]
  methods := #[k6m0, k6m1, k6m2]
  instanceTypes := #[.int, (.object "com/example/apportion/apportion/AppendOnlyList$Prefix")]
  staticTypes := #[]
  resolved := Array.replicate 53 none
  statics := none }

def pool7 : Array CpInfo := pool [(1, .class_ 2), (0, u "java/io/Serializable"), (0, .class_ 4), (0, u "java/lang/Object")] 2

/-- java/io/Serializable -/
def k7 : Class := { plain "java/io/Serializable" (some 0) with
  accessFlags := 1537
  interfaces := #[]
  cf := some (fileOf pool7 1 #[] #[] 1537 3 #[] #[])
  fields := #[]
  methods := #[]
  instanceTypes := #[]
  staticTypes := #[]
  resolved := Array.replicate 7 none
  statics := none }

def pool8 : Array CpInfo := pool [(1, .methodref 2 3), (0, .class_ 4), (0, .nameAndType 5 6), (0, u "java/lang/Object"), (0, u "<init>"), (0, u "()V"), (1, .class_ 10), (1, u "java/lang/Number"), (2, .class_ 14), (0, u "java/io/Serializable"), (0, u "serialVersionUID"), (0, u "J")] 20

def k8c0 : Code := { maxStack := 1, maxLocals := 1, code := jdk_18_method_1_code, exceptionTable := #[], attributes := #[] }
def k8m0 : Method := { name := "<init>", desc := "()V", sig := { parameters := [], returnType := none }, accessFlags := 1, code := some k8c0 }
/-- java/lang/Number -/
def k8 : Class := { plain "java/lang/Number" (some 0) with
  accessFlags := 1057
  interfaces := #[7]
  cf := some (fileOf pool8 8 #[] #[{ accessFlags := 1, nameIndex := 5, descriptorIndex := 6, attributes := #[] }] 1057 2 #[13] #[{ accessFlags := 26, nameIndex := 15, descriptorIndex := 16, attributes := #[] }])
  fields := #[{ name := "serialVersionUID", type := .long, accessFlags := 26, slot := 0, constantValue := 0 }]
  methods := #[k8m0]
  instanceTypes := #[]
  staticTypes := #[.long]
  resolved := Array.replicate 37 none
  statics := none }

def pool9 : Array CpInfo := pool [(1, .class_ 2), (0, u "java/lang/Comparable"), (0, .class_ 4), (0, u "java/lang/Object")] 7

/-- java/lang/Comparable -/
def k9 : Class := { plain "java/lang/Comparable" (some 0) with
  accessFlags := 1537
  interfaces := #[]
  cf := some (fileOf pool9 1 #[] #[] 1537 3 #[] #[])
  fields := #[]
  methods := #[]
  instanceTypes := #[]
  staticTypes := #[]
  resolved := Array.replicate 12 none
  statics := none }

def pool10 : Array CpInfo := pool [(1, .class_ 2), (0, u "java/lang/constant/Constable"), (0, .class_ 4), (0, u "java/lang/Object")] 6

/-- java/lang/constant/Constable -/
def k10 : Class := { plain "java/lang/constant/Constable" (some 0) with
  accessFlags := 1537
  interfaces := #[]
  cf := some (fileOf pool10 1 #[] #[] 1537 3 #[] #[])
  fields := #[]
  methods := #[]
  instanceTypes := #[]
  staticTypes := #[]
  resolved := Array.replicate 11 none
  statics := none }

def pool11 : Array CpInfo := pool [(1, .class_ 2), (0, u "java/lang/constant/ConstantDesc"), (0, .class_ 4), (0, u "java/lang/Object")] 32

/-- java/lang/constant/ConstantDesc -/
def k11 : Class := { plain "java/lang/constant/ConstantDesc" (some 0) with
  accessFlags := 1537
  interfaces := #[]
  cf := some (fileOf pool11 1 #[] #[] 1537 3 #[] #[])
  fields := #[]
  methods := #[]
  instanceTypes := #[]
  staticTypes := #[]
  resolved := Array.replicate 37 none
  statics := none }

def pool12 : Array CpInfo := pool [(1, .class_ 2), (0, u "java/lang/Integer"), (16, u "digits"), (0, u "[C"), (46, u "<init>"), (17, u "DigitOnes"), (0, u "[B"), (2, u "DigitTens"), (10, .nameAndType 67 101), (0, u "()V"), (19, u "()I"), (65, u "valueOf"), (0, u "(I)Ljava/lang/Integer;"), (0, .class_ 190), (0, u "java/lang/Integer$IntegerCache"), (0, .fieldref 189 192), (0, .nameAndType 193 194), (0, u "high"), (0, u "I"), (0, .fieldref 189 196), (0, .nameAndType 197 198), (0, u "cache"), (0, u "[Ljava/lang/Integer;"), (0, .methodref 1 200), (0, .nameAndType 67 201), (0, u "(I)V"), (0, .methodref 203 100), (0, .class_ 204), (0, u "java/lang/Number"), (0, .fieldref 1 206), (0, .nameAndType 207 194), (0, u "value"), (5, u "intValue"), (88, u "TYPE"), (0, u "Ljava/lang/Class;"), (0, .class_ 305), (0, u "java/lang/Comparable"), (0, .class_ 307), (0, u "java/lang/constant/Constable"), (0, .class_ 309), (0, u "java/lang/constant/ConstantDesc"), (0, u "MIN_VALUE"), (1, u "MAX_VALUE"), (3, u "SIZE"), (1, u "BYTES"), (1, u "serialVersionUID"), (0, u "J")] 131

def k12c0 : Code := { maxStack := 3, maxLocals := 1, code := jdk_33_method_22_code, exceptionTable := #[], attributes := #[] }
def k12m0 : Method := { name := "valueOf", desc := "(I)Ljava/lang/Integer;", sig := { parameters := [.int], returnType := some (.object "java/lang/Integer") }, accessFlags := 9, code := some k12c0 }
def k12c1 : Code := { maxStack := 2, maxLocals := 2, code := jdk_33_method_23_code, exceptionTable := #[], attributes := #[] }
def k12m1 : Method := { name := "<init>", desc := "(I)V", sig := { parameters := [.int], returnType := none }, accessFlags := 1, code := some k12c1 }
def k12c2 : Code := { maxStack := 1, maxLocals := 1, code := jdk_33_method_27_code, exceptionTable := #[], attributes := #[] }
def k12m2 : Method := { name := "intValue", desc := "()I", sig := { parameters := [], returnType := some .int }, accessFlags := 1, code := some k12c2 }
/-- java/lang/Integer -/
def k12 : Class := { plain "java/lang/Integer" (some 8) with
  accessFlags := 49
  interfaces := #[9, 10, 11]
  cf := some (fileOf pool12 1 #[.nestMembers #[189]] #[{ accessFlags := 9, nameIndex := 187, descriptorIndex := 188, attributes := #[] }, { accessFlags := 1, nameIndex := 67, descriptorIndex := 201, attributes := #[] }, { accessFlags := 1, nameIndex := 213, descriptorIndex := 121, attributes := #[] }] 49 203 #[304, 306, 308] #[{ accessFlags := 25, nameIndex := 310, descriptorIndex := 194, attributes := #[] }, { accessFlags := 25, nameIndex := 312, descriptorIndex := 194, attributes := #[] }, { accessFlags := 25, nameIndex := 302, descriptorIndex := 303, attributes := #[] }, { accessFlags := 24, nameIndex := 19, descriptorIndex := 20, attributes := #[] }, { accessFlags := 24, nameIndex := 89, descriptorIndex := 86, attributes := #[] }, { accessFlags := 24, nameIndex := 85, descriptorIndex := 86, attributes := #[] }, { accessFlags := 18, nameIndex := 207, descriptorIndex := 194, attributes := #[] }, { accessFlags := 25, nameIndex := 316, descriptorIndex := 194, attributes := #[] }, { accessFlags := 25, nameIndex := 318, descriptorIndex := 194, attributes := #[] }, { accessFlags := 26, nameIndex := 320, descriptorIndex := 321, attributes := #[] }])
  fields := #[{ name := "MIN_VALUE", type := .int, accessFlags := 25, slot := 0, constantValue := 0 }, { name := "MAX_VALUE", type := .int, accessFlags := 25, slot := 1, constantValue := 0 }, { name := "TYPE", type := (.object "java/lang/Class"), accessFlags := 25, slot := 2, constantValue := 0 }, { name := "digits", type := (.array .char), accessFlags := 24, slot := 3, constantValue := 0 }, { name := "DigitTens", type := (.array .byte), accessFlags := 24, slot := 4, constantValue := 0 }, { name := "DigitOnes", type := (.array .byte), accessFlags := 24, slot := 5, constantValue := 0 }, { name := "value", type := .int, accessFlags := 18, slot := 0, constantValue := 0 }, { name := "SIZE", type := .int, accessFlags := 25, slot := 6, constantValue := 0 }, { name := "BYTES", type := .int, accessFlags := 25, slot := 7, constantValue := 0 }, { name := "serialVersionUID", type := .long, accessFlags := 26, slot := 8, constantValue := 0 }]
  methods := #[k12m0, k12m1, k12m2]
  instanceTypes := #[.int]
  staticTypes := #[.int, .int, (.object "java/lang/Class"), (.array .char), (.array .byte), (.array .byte), .int, .int, .long]
  resolved := Array.replicate 453 none
  statics := none }

def pool13 : Array CpInfo := pool [(2, .class_ 4), (1, u "java/lang/Object"), (0, u "<init>"), (0, u "()V"), (0, .class_ 8), (0, u "java/lang/Integer"), (7, .class_ 18), (1, u "java/lang/Integer$IntegerCache"), (0, u "$assertionsDisabled"), (0, u "Z"), (26, u "high"), (0, u "I"), (8, u "archivedCache"), (0, u "[Ljava/lang/Integer;"), (12, u "cache"), (0, u "low")] 27

def k13m0 : Method := { name := "<init>", desc := "()V", sig := { parameters := [], returnType := none }, accessFlags := 2, code := none }
/-- java/lang/Integer$IntegerCache -/
def k13 : Class := { plain "java/lang/Integer$IntegerCache" (some 0) with
  accessFlags := 48
  interfaces := #[]
  cf := some (fileOf pool13 16 #[.nestHost 7] #[{ accessFlags := 2, nameIndex := 5, descriptorIndex := 6, attributes := #[] }] 48 2 #[] #[{ accessFlags := 24, nameIndex := 72, descriptorIndex := 48, attributes := #[] }, { accessFlags := 24, nameIndex := 47, descriptorIndex := 48, attributes := #[] }, { accessFlags := 24, nameIndex := 71, descriptorIndex := 58, attributes := #[] }, { accessFlags := 8, nameIndex := 57, descriptorIndex := 58, attributes := #[] }, { accessFlags := 4120, nameIndex := 19, descriptorIndex := 20, attributes := #[] }])
  fields := #[{ name := "low", type := .int, accessFlags := 24, slot := 0, constantValue := 0 }, { name := "high", type := .int, accessFlags := 24, slot := 1, constantValue := 0 }, { name := "cache", type := (.array (.object "java/lang/Integer")), accessFlags := 24, slot := 2, constantValue := 0 }, { name := "archivedCache", type := (.array (.object "java/lang/Integer")), accessFlags := 8, slot := 3, constantValue := 0 }, { name := "$assertionsDisabled", type := .boolean, accessFlags := 4120, slot := 4, constantValue := 0 }]
  methods := #[k13m0]
  instanceTypes := #[]
  staticTypes := #[.int, .int, (.array (.object "java/lang/Integer")), (.array (.object "java/lang/Integer")), .boolean]
  resolved := Array.replicate 100 none
  statics := some 0 }

def pool14 : Array CpInfo := pool [(1, u "java/lang/Cloneable"), (0, .class_ 1), (0, u "java/lang/Object"), (0, .class_ 3)] 3

/-- java/lang/Cloneable -/
def k14 : Class := { plain "java/lang/Cloneable" (some 0) with
  accessFlags := 1537
  interfaces := #[]
  cf := some (fileOf pool14 2 #[] #[] 1537 4 #[] #[])
  fields := #[]
  methods := #[]
  instanceTypes := #[]
  staticTypes := #[]
  resolved := Array.replicate 8 none
  statics := none }

/-- the primitive byte -/
def k15 : Class := { plain "byte" none with kind := .primitive 'B', accessFlags := 0x411 }
/-- [B -/
def k16 : Class := { plain "[B" (some 0) with kind := .array 15 .byte, interfaces := #[14, 7], accessFlags := 1041 }

/-- the primitive int -/
def k17 : Class := { plain "int" none with kind := .primitive 'I', accessFlags := 0x411 }
/-- [I -/
def k18 : Class := { plain "[I" (some 0) with kind := .array 17 .int, interfaces := #[14, 7], accessFlags := 1041 }

/-- [Ljava/lang/Integer; -/
def k19 : Class := { plain "[Ljava/lang/Integer;" (some 0) with kind := .array 12 (.object "java/lang/Integer"), interfaces := #[14, 7], accessFlags := 1041 }

/-- [Ljava/lang/Object; -/
def k20 : Class := { plain "[Ljava/lang/Object;" (some 0) with kind := .array 0 (.object "java/lang/Object"), interfaces := #[14, 7], accessFlags := 1041 }

/-- [[Ljava/lang/Object; -/
def k21 : Class := { plain "[[Ljava/lang/Object;" (some 0) with kind := .array 20 (.array (.object "java/lang/Object")), interfaces := #[14, 7], accessFlags := 1041 }

def heap : Heap := #[{ cls := 13, slots := #[.int 0, .int 127, .ref 1, .null, .int 0], vm := .statics 13 },
  { cls := 19, slots := #[.ref 2, .ref 3, .ref 4, .ref 5, .ref 6, .ref 7, .ref 8, .ref 9, .ref 10, .ref 11, .ref 12, .ref 13, .ref 14, .ref 15, .ref 16, .ref 17, .ref 18, .ref 19, .ref 20, .ref 21, .ref 22, .ref 23, .ref 24, .ref 25, .ref 26, .ref 27, .ref 28, .ref 29, .ref 30, .ref 31, .ref 32, .ref 33, .ref 34, .ref 35, .ref 36, .ref 37, .ref 38, .ref 39, .ref 40, .ref 41, .ref 42, .ref 43, .ref 44, .ref 45, .ref 46, .ref 47, .ref 48, .ref 49, .ref 50, .ref 51, .ref 52, .ref 53, .ref 54, .ref 55, .ref 56, .ref 57, .ref 58, .ref 59, .ref 60, .ref 61, .ref 62, .ref 63, .ref 64, .ref 65, .ref 66, .ref 67, .ref 68, .ref 69, .ref 70, .ref 71, .ref 72, .ref 73, .ref 74, .ref 75, .ref 76, .ref 77, .ref 78, .ref 79, .ref 80, .ref 81, .ref 82, .ref 83, .ref 84, .ref 85, .ref 86, .ref 87, .ref 88, .ref 89, .ref 90, .ref 91, .ref 92, .ref 93, .ref 94, .ref 95, .ref 96, .ref 97, .ref 98, .ref 99, .ref 100, .ref 101, .ref 102, .ref 103, .ref 104, .ref 105, .ref 106, .ref 107, .ref 108, .ref 109, .ref 110, .ref 111, .ref 112, .ref 113, .ref 114, .ref 115, .ref 116, .ref 117, .ref 118, .ref 119, .ref 120, .ref 121, .ref 122, .ref 123, .ref 124, .ref 125, .ref 126, .ref 127, .ref 128, .ref 129, .ref 130, .ref 131, .ref 132, .ref 133, .ref 134, .ref 135, .ref 136, .ref 137, .ref 138, .ref 139, .ref 140, .ref 141, .ref 142, .ref 143, .ref 144, .ref 145, .ref 146, .ref 147, .ref 148, .ref 149, .ref 150, .ref 151, .ref 152, .ref 153, .ref 154, .ref 155, .ref 156, .ref 157, .ref 158, .ref 159, .ref 160, .ref 161, .ref 162, .ref 163, .ref 164, .ref 165, .ref 166, .ref 167, .ref 168, .ref 169, .ref 170, .ref 171, .ref 172, .ref 173, .ref 174, .ref 175, .ref 176, .ref 177, .ref 178, .ref 179, .ref 180, .ref 181, .ref 182, .ref 183, .ref 184, .ref 185, .ref 186, .ref 187, .ref 188, .ref 189, .ref 190, .ref 191, .ref 192, .ref 193, .ref 194, .ref 195, .ref 196, .ref 197, .ref 198, .ref 199, .ref 200, .ref 201, .ref 202, .ref 203, .ref 204, .ref 205, .ref 206, .ref 207, .ref 208, .ref 209, .ref 210, .ref 211, .ref 212, .ref 213, .ref 214, .ref 215, .ref 216, .ref 217, .ref 218, .ref 219, .ref 220, .ref 221, .ref 222, .ref 223, .ref 224, .ref 225, .ref 226, .ref 227, .ref 228, .ref 229, .ref 230, .ref 231, .ref 232, .ref 233, .ref 234, .ref 235, .ref 236, .ref 237, .ref 238, .ref 239, .ref 240, .ref 241, .ref 242, .ref 243, .ref 244, .ref 245, .ref 246, .ref 247, .ref 248, .ref 249, .ref 250, .ref 251, .ref 252, .ref 253, .ref 254, .ref 255, .ref 256, .ref 257], vm := .none },
  { cls := 12, slots := #[.int (-128)], vm := .none },
  { cls := 12, slots := #[.int (-127)], vm := .none },
  { cls := 12, slots := #[.int (-126)], vm := .none },
  { cls := 12, slots := #[.int (-125)], vm := .none },
  { cls := 12, slots := #[.int (-124)], vm := .none },
  { cls := 12, slots := #[.int (-123)], vm := .none },
  { cls := 12, slots := #[.int (-122)], vm := .none },
  { cls := 12, slots := #[.int (-121)], vm := .none },
  { cls := 12, slots := #[.int (-120)], vm := .none },
  { cls := 12, slots := #[.int (-119)], vm := .none },
  { cls := 12, slots := #[.int (-118)], vm := .none },
  { cls := 12, slots := #[.int (-117)], vm := .none },
  { cls := 12, slots := #[.int (-116)], vm := .none },
  { cls := 12, slots := #[.int (-115)], vm := .none },
  { cls := 12, slots := #[.int (-114)], vm := .none },
  { cls := 12, slots := #[.int (-113)], vm := .none },
  { cls := 12, slots := #[.int (-112)], vm := .none },
  { cls := 12, slots := #[.int (-111)], vm := .none },
  { cls := 12, slots := #[.int (-110)], vm := .none },
  { cls := 12, slots := #[.int (-109)], vm := .none },
  { cls := 12, slots := #[.int (-108)], vm := .none },
  { cls := 12, slots := #[.int (-107)], vm := .none },
  { cls := 12, slots := #[.int (-106)], vm := .none },
  { cls := 12, slots := #[.int (-105)], vm := .none },
  { cls := 12, slots := #[.int (-104)], vm := .none },
  { cls := 12, slots := #[.int (-103)], vm := .none },
  { cls := 12, slots := #[.int (-102)], vm := .none },
  { cls := 12, slots := #[.int (-101)], vm := .none },
  { cls := 12, slots := #[.int (-100)], vm := .none },
  { cls := 12, slots := #[.int (-99)], vm := .none },
  { cls := 12, slots := #[.int (-98)], vm := .none },
  { cls := 12, slots := #[.int (-97)], vm := .none },
  { cls := 12, slots := #[.int (-96)], vm := .none },
  { cls := 12, slots := #[.int (-95)], vm := .none },
  { cls := 12, slots := #[.int (-94)], vm := .none },
  { cls := 12, slots := #[.int (-93)], vm := .none },
  { cls := 12, slots := #[.int (-92)], vm := .none },
  { cls := 12, slots := #[.int (-91)], vm := .none },
  { cls := 12, slots := #[.int (-90)], vm := .none },
  { cls := 12, slots := #[.int (-89)], vm := .none },
  { cls := 12, slots := #[.int (-88)], vm := .none },
  { cls := 12, slots := #[.int (-87)], vm := .none },
  { cls := 12, slots := #[.int (-86)], vm := .none },
  { cls := 12, slots := #[.int (-85)], vm := .none },
  { cls := 12, slots := #[.int (-84)], vm := .none },
  { cls := 12, slots := #[.int (-83)], vm := .none },
  { cls := 12, slots := #[.int (-82)], vm := .none },
  { cls := 12, slots := #[.int (-81)], vm := .none },
  { cls := 12, slots := #[.int (-80)], vm := .none },
  { cls := 12, slots := #[.int (-79)], vm := .none },
  { cls := 12, slots := #[.int (-78)], vm := .none },
  { cls := 12, slots := #[.int (-77)], vm := .none },
  { cls := 12, slots := #[.int (-76)], vm := .none },
  { cls := 12, slots := #[.int (-75)], vm := .none },
  { cls := 12, slots := #[.int (-74)], vm := .none },
  { cls := 12, slots := #[.int (-73)], vm := .none },
  { cls := 12, slots := #[.int (-72)], vm := .none },
  { cls := 12, slots := #[.int (-71)], vm := .none },
  { cls := 12, slots := #[.int (-70)], vm := .none },
  { cls := 12, slots := #[.int (-69)], vm := .none },
  { cls := 12, slots := #[.int (-68)], vm := .none },
  { cls := 12, slots := #[.int (-67)], vm := .none },
  { cls := 12, slots := #[.int (-66)], vm := .none },
  { cls := 12, slots := #[.int (-65)], vm := .none },
  { cls := 12, slots := #[.int (-64)], vm := .none },
  { cls := 12, slots := #[.int (-63)], vm := .none },
  { cls := 12, slots := #[.int (-62)], vm := .none },
  { cls := 12, slots := #[.int (-61)], vm := .none },
  { cls := 12, slots := #[.int (-60)], vm := .none },
  { cls := 12, slots := #[.int (-59)], vm := .none },
  { cls := 12, slots := #[.int (-58)], vm := .none },
  { cls := 12, slots := #[.int (-57)], vm := .none },
  { cls := 12, slots := #[.int (-56)], vm := .none },
  { cls := 12, slots := #[.int (-55)], vm := .none },
  { cls := 12, slots := #[.int (-54)], vm := .none },
  { cls := 12, slots := #[.int (-53)], vm := .none },
  { cls := 12, slots := #[.int (-52)], vm := .none },
  { cls := 12, slots := #[.int (-51)], vm := .none },
  { cls := 12, slots := #[.int (-50)], vm := .none },
  { cls := 12, slots := #[.int (-49)], vm := .none },
  { cls := 12, slots := #[.int (-48)], vm := .none },
  { cls := 12, slots := #[.int (-47)], vm := .none },
  { cls := 12, slots := #[.int (-46)], vm := .none },
  { cls := 12, slots := #[.int (-45)], vm := .none },
  { cls := 12, slots := #[.int (-44)], vm := .none },
  { cls := 12, slots := #[.int (-43)], vm := .none },
  { cls := 12, slots := #[.int (-42)], vm := .none },
  { cls := 12, slots := #[.int (-41)], vm := .none },
  { cls := 12, slots := #[.int (-40)], vm := .none },
  { cls := 12, slots := #[.int (-39)], vm := .none },
  { cls := 12, slots := #[.int (-38)], vm := .none },
  { cls := 12, slots := #[.int (-37)], vm := .none },
  { cls := 12, slots := #[.int (-36)], vm := .none },
  { cls := 12, slots := #[.int (-35)], vm := .none },
  { cls := 12, slots := #[.int (-34)], vm := .none },
  { cls := 12, slots := #[.int (-33)], vm := .none },
  { cls := 12, slots := #[.int (-32)], vm := .none },
  { cls := 12, slots := #[.int (-31)], vm := .none },
  { cls := 12, slots := #[.int (-30)], vm := .none },
  { cls := 12, slots := #[.int (-29)], vm := .none },
  { cls := 12, slots := #[.int (-28)], vm := .none },
  { cls := 12, slots := #[.int (-27)], vm := .none },
  { cls := 12, slots := #[.int (-26)], vm := .none },
  { cls := 12, slots := #[.int (-25)], vm := .none },
  { cls := 12, slots := #[.int (-24)], vm := .none },
  { cls := 12, slots := #[.int (-23)], vm := .none },
  { cls := 12, slots := #[.int (-22)], vm := .none },
  { cls := 12, slots := #[.int (-21)], vm := .none },
  { cls := 12, slots := #[.int (-20)], vm := .none },
  { cls := 12, slots := #[.int (-19)], vm := .none },
  { cls := 12, slots := #[.int (-18)], vm := .none },
  { cls := 12, slots := #[.int (-17)], vm := .none },
  { cls := 12, slots := #[.int (-16)], vm := .none },
  { cls := 12, slots := #[.int (-15)], vm := .none },
  { cls := 12, slots := #[.int (-14)], vm := .none },
  { cls := 12, slots := #[.int (-13)], vm := .none },
  { cls := 12, slots := #[.int (-12)], vm := .none },
  { cls := 12, slots := #[.int (-11)], vm := .none },
  { cls := 12, slots := #[.int (-10)], vm := .none },
  { cls := 12, slots := #[.int (-9)], vm := .none },
  { cls := 12, slots := #[.int (-8)], vm := .none },
  { cls := 12, slots := #[.int (-7)], vm := .none },
  { cls := 12, slots := #[.int (-6)], vm := .none },
  { cls := 12, slots := #[.int (-5)], vm := .none },
  { cls := 12, slots := #[.int (-4)], vm := .none },
  { cls := 12, slots := #[.int (-3)], vm := .none },
  { cls := 12, slots := #[.int (-2)], vm := .none },
  { cls := 12, slots := #[.int (-1)], vm := .none },
  { cls := 12, slots := #[.int 0], vm := .none },
  { cls := 12, slots := #[.int 1], vm := .none },
  { cls := 12, slots := #[.int 2], vm := .none },
  { cls := 12, slots := #[.int 3], vm := .none },
  { cls := 12, slots := #[.int 4], vm := .none },
  { cls := 12, slots := #[.int 5], vm := .none },
  { cls := 12, slots := #[.int 6], vm := .none },
  { cls := 12, slots := #[.int 7], vm := .none },
  { cls := 12, slots := #[.int 8], vm := .none },
  { cls := 12, slots := #[.int 9], vm := .none },
  { cls := 12, slots := #[.int 10], vm := .none },
  { cls := 12, slots := #[.int 11], vm := .none },
  { cls := 12, slots := #[.int 12], vm := .none },
  { cls := 12, slots := #[.int 13], vm := .none },
  { cls := 12, slots := #[.int 14], vm := .none },
  { cls := 12, slots := #[.int 15], vm := .none },
  { cls := 12, slots := #[.int 16], vm := .none },
  { cls := 12, slots := #[.int 17], vm := .none },
  { cls := 12, slots := #[.int 18], vm := .none },
  { cls := 12, slots := #[.int 19], vm := .none },
  { cls := 12, slots := #[.int 20], vm := .none },
  { cls := 12, slots := #[.int 21], vm := .none },
  { cls := 12, slots := #[.int 22], vm := .none },
  { cls := 12, slots := #[.int 23], vm := .none },
  { cls := 12, slots := #[.int 24], vm := .none },
  { cls := 12, slots := #[.int 25], vm := .none },
  { cls := 12, slots := #[.int 26], vm := .none },
  { cls := 12, slots := #[.int 27], vm := .none },
  { cls := 12, slots := #[.int 28], vm := .none },
  { cls := 12, slots := #[.int 29], vm := .none },
  { cls := 12, slots := #[.int 30], vm := .none },
  { cls := 12, slots := #[.int 31], vm := .none },
  { cls := 12, slots := #[.int 32], vm := .none },
  { cls := 12, slots := #[.int 33], vm := .none },
  { cls := 12, slots := #[.int 34], vm := .none },
  { cls := 12, slots := #[.int 35], vm := .none },
  { cls := 12, slots := #[.int 36], vm := .none },
  { cls := 12, slots := #[.int 37], vm := .none },
  { cls := 12, slots := #[.int 38], vm := .none },
  { cls := 12, slots := #[.int 39], vm := .none },
  { cls := 12, slots := #[.int 40], vm := .none },
  { cls := 12, slots := #[.int 41], vm := .none },
  { cls := 12, slots := #[.int 42], vm := .none },
  { cls := 12, slots := #[.int 43], vm := .none },
  { cls := 12, slots := #[.int 44], vm := .none },
  { cls := 12, slots := #[.int 45], vm := .none },
  { cls := 12, slots := #[.int 46], vm := .none },
  { cls := 12, slots := #[.int 47], vm := .none },
  { cls := 12, slots := #[.int 48], vm := .none },
  { cls := 12, slots := #[.int 49], vm := .none },
  { cls := 12, slots := #[.int 50], vm := .none },
  { cls := 12, slots := #[.int 51], vm := .none },
  { cls := 12, slots := #[.int 52], vm := .none },
  { cls := 12, slots := #[.int 53], vm := .none },
  { cls := 12, slots := #[.int 54], vm := .none },
  { cls := 12, slots := #[.int 55], vm := .none },
  { cls := 12, slots := #[.int 56], vm := .none },
  { cls := 12, slots := #[.int 57], vm := .none },
  { cls := 12, slots := #[.int 58], vm := .none },
  { cls := 12, slots := #[.int 59], vm := .none },
  { cls := 12, slots := #[.int 60], vm := .none },
  { cls := 12, slots := #[.int 61], vm := .none },
  { cls := 12, slots := #[.int 62], vm := .none },
  { cls := 12, slots := #[.int 63], vm := .none },
  { cls := 12, slots := #[.int 64], vm := .none },
  { cls := 12, slots := #[.int 65], vm := .none },
  { cls := 12, slots := #[.int 66], vm := .none },
  { cls := 12, slots := #[.int 67], vm := .none },
  { cls := 12, slots := #[.int 68], vm := .none },
  { cls := 12, slots := #[.int 69], vm := .none },
  { cls := 12, slots := #[.int 70], vm := .none },
  { cls := 12, slots := #[.int 71], vm := .none },
  { cls := 12, slots := #[.int 72], vm := .none },
  { cls := 12, slots := #[.int 73], vm := .none },
  { cls := 12, slots := #[.int 74], vm := .none },
  { cls := 12, slots := #[.int 75], vm := .none },
  { cls := 12, slots := #[.int 76], vm := .none },
  { cls := 12, slots := #[.int 77], vm := .none },
  { cls := 12, slots := #[.int 78], vm := .none },
  { cls := 12, slots := #[.int 79], vm := .none },
  { cls := 12, slots := #[.int 80], vm := .none },
  { cls := 12, slots := #[.int 81], vm := .none },
  { cls := 12, slots := #[.int 82], vm := .none },
  { cls := 12, slots := #[.int 83], vm := .none },
  { cls := 12, slots := #[.int 84], vm := .none },
  { cls := 12, slots := #[.int 85], vm := .none },
  { cls := 12, slots := #[.int 86], vm := .none },
  { cls := 12, slots := #[.int 87], vm := .none },
  { cls := 12, slots := #[.int 88], vm := .none },
  { cls := 12, slots := #[.int 89], vm := .none },
  { cls := 12, slots := #[.int 90], vm := .none },
  { cls := 12, slots := #[.int 91], vm := .none },
  { cls := 12, slots := #[.int 92], vm := .none },
  { cls := 12, slots := #[.int 93], vm := .none },
  { cls := 12, slots := #[.int 94], vm := .none },
  { cls := 12, slots := #[.int 95], vm := .none },
  { cls := 12, slots := #[.int 96], vm := .none },
  { cls := 12, slots := #[.int 97], vm := .none },
  { cls := 12, slots := #[.int 98], vm := .none },
  { cls := 12, slots := #[.int 99], vm := .none },
  { cls := 12, slots := #[.int 100], vm := .none },
  { cls := 12, slots := #[.int 101], vm := .none },
  { cls := 12, slots := #[.int 102], vm := .none },
  { cls := 12, slots := #[.int 103], vm := .none },
  { cls := 12, slots := #[.int 104], vm := .none },
  { cls := 12, slots := #[.int 105], vm := .none },
  { cls := 12, slots := #[.int 106], vm := .none },
  { cls := 12, slots := #[.int 107], vm := .none },
  { cls := 12, slots := #[.int 108], vm := .none },
  { cls := 12, slots := #[.int 109], vm := .none },
  { cls := 12, slots := #[.int 110], vm := .none },
  { cls := 12, slots := #[.int 111], vm := .none },
  { cls := 12, slots := #[.int 112], vm := .none },
  { cls := 12, slots := #[.int 113], vm := .none },
  { cls := 12, slots := #[.int 114], vm := .none },
  { cls := 12, slots := #[.int 115], vm := .none },
  { cls := 12, slots := #[.int 116], vm := .none },
  { cls := 12, slots := #[.int 117], vm := .none },
  { cls := 12, slots := #[.int 118], vm := .none },
  { cls := 12, slots := #[.int 119], vm := .none },
  { cls := 12, slots := #[.int 120], vm := .none },
  { cls := 12, slots := #[.int 121], vm := .none },
  { cls := 12, slots := #[.int 122], vm := .none },
  { cls := 12, slots := #[.int 123], vm := .none },
  { cls := 12, slots := #[.int 124], vm := .none },
  { cls := 12, slots := #[.int 125], vm := .none },
  { cls := 12, slots := #[.int 126], vm := .none },
  { cls := 12, slots := #[.int 127], vm := .none }]
def classes : Array Class := #[k0, k1, k2, k3, k4, k5, k6, k7, k8, k9, k10, k11, k12, k13, k14, k15, k16, k17, k18, k19, k20, k21]
def interned : List (Array UInt16 × Addr) := []
def slotsUsed : Nat := 517
def theMethod : MethodId := ⟨1, 1⟩
def args0 : Array Value := #[.int 2, .int 5, .int 6, .int 7, .int 1]
def aboutOver (below : List Frame) : State where
  vm := { classes := classes, interned := interned.toArray }
  heap := heap
  slotsUsed := slotsUsed
  threads := #[{ frames := .invoking theMethod args0 :: below }]
def below0 : List Frame := [.native { method := ⟨0, 0⟩, args := #[] }]
def about1 : State := aboutOver below0
def p0 : Program := .bare "" "" ""
def e0 : Env := launch0.env 0 0 0
theorem w_frames : about1.frames = Frame.invoking theMethod args0 :: below0 := rfl
set_option maxRecDepth 65536 in
theorem w_args : argsFit about1.vm theMethod args0 = true := by decide +kernel
set_option maxRecDepth 65536 in
theorem w_heap : heapFits about1 = true := by decide +kernel
set_option maxRecDepth 65536 in
theorem w_runnable : about1.curStatus? = some .runnable := by decide +kernel
set_option maxRecDepth 65536 in
theorem w_alone : about1.alone = true := by decide +kernel
set_option maxRecDepth 65536 in
theorem w_named : about1.methodNamed? x = some theMethod := by decide +kernel
set_option maxRecDepth 65536 in
theorem w_hears : about1.hears theMethod below0 = true := by decide +kernel
set_option maxRecDepth 65536 in
theorem w_ripe : about1.ripe theMethod args0 below0 = true := by decide +kernel
theorem w_running : about1.status = .running := rfl
set_option maxRecDepth 65536 in
theorem w_room : about1.hasRoom e0.platform room_1 = true :=
  launch0.hasRoom_least _ room_1 (by decide +kernel) (by decide +kernel) (by decide +kernel) (by decide +kernel) (by decide +kernel) (by decide +kernel)
theorem allAtoms_all (ts : List Jvm.Cond) (a : Array Jvm.Value) (st : Jvm.State) : (allAtoms ts).before a st = ts.all (fun c => c.before a st) := by
  induction ts with
  | nil => rfl
  | cons c t ih =>
    show (Jvm.Cond.and c (allAtoms t)).before a st = _
    rw [Jvm.Cond.before_and, ih, List.all_cons]
def words1 : List Jvm.Cond := Jvm.Cond.code x code maxLocals ret :: tables_1
/-- a 'code' word, met by the world's own term for the bytes: nothing is compared byte by byte -/
theorem code_word {y : MethodName} {bytes : ByteArray} {mx : Nat} {rt : Option FieldType} {a : Array Value} {s : State} {m : MethodId} {meth : Method} {c : Code} (h1 : s.methodNamed? y = some m) (h2 : s.vm.method? m = some meth) (h3 : meth.code = some c) (h4 : c.code = bytes)
    (h5 : (c.maxLocals == mx && c.exceptionTable.isEmpty && decide (c.maxStack ≤ mostOperands) && decide (meth.sig.returnType = rt) && !meth.locks && decide (parseMethodDescriptor y.desc = some meth.sig)) = true) : (Jvm.Cond.code y bytes mx rt).before a s = true := by
  simp only [Bool.and_eq_true, beq_iff_eq, Bool.not_eq_true', decide_eq_true_eq] at h5
  obtain ⟨⟨⟨⟨⟨g1, g2⟩, g3⟩, g4⟩, g5⟩, g6⟩ := h5
  simp [Cond.before, Cond.holds, Cond.value, h1, h2, h3, h4, g1, g2, g3, g4, g5, g6]
def isCode : Jvm.Cond → Bool
  | .code _ _ _ _ => true
  | _ => false
theorem all_split {L : List Jvm.Cond} {P : Jvm.Cond → Bool} (h1 : L.all (fun c => isCode c || P c) = true) (h2 : ∀ c ∈ L.filter isCode, P c = true) : L.all P = true := by
  refine List.all_eq_true.mpr fun c hc => ?_
  have h := List.all_eq_true.mp h1 c hc
  rcases Bool.eq_false_or_eq_true (isCode c) with hi | hi
  · exact h2 c (List.mem_filter.mpr ⟨hc, hi⟩)
  · simpa [hi] using h
set_option maxRecDepth 65536 in
theorem w_c0 : (Jvm.Cond.code x code maxLocals ret).before args0 about1 = true := code_word (m := ⟨1, 1⟩) (meth := k1m1) (c := k1c1) (by decide +kernel) rfl rfl rfl (by decide +kernel)
set_option maxRecDepth 65536 in
theorem w_c1 : (Jvm.Cond.code ({ cls := "com/example/apportion/apportion/AppendOnlyList", name := "<init>", desc := "()V" } : Jvm.MethodName) prog_1_method_1_code (1 : Nat) (Option.none : Option Jvm.ClassFile.FieldType)).before args0 about1 = true := code_word (m := ⟨2, 0⟩) (meth := k2m0) (c := k2c0) (by decide +kernel) rfl rfl rfl (by decide +kernel)
set_option maxRecDepth 65536 in
theorem w_c2 : (Jvm.Cond.code ({ cls := "java/lang/Object", name := "<init>", desc := "()V" } : Jvm.MethodName) object_method_1_code (1 : Nat) (Option.none : Option Jvm.ClassFile.FieldType)).before args0 about1 = true := code_word (m := ⟨0, 0⟩) (meth := k0m0) (c := k0c0) (by decide +kernel) rfl rfl rfl (by decide +kernel)
set_option maxRecDepth 65536 in
theorem w_c3 : (Jvm.Cond.code ({ cls := "com/example/apportion/apportion/AppendOnlyList", name := "prefix", desc := "()Lcom/example/apportion/apportion/AppendOnlyList$Prefix;" } : Jvm.MethodName) prog_1_method_3_code (1 : Nat) (Option.some (Jvm.ClassFile.FieldType.object "com/example/apportion/apportion/AppendOnlyList$Prefix"))).before args0 about1 = true := code_word (m := ⟨2, 2⟩) (meth := k2m2) (c := k2c2) (by decide +kernel) rfl rfl rfl (by decide +kernel)
set_option maxRecDepth 65536 in
theorem w_c4 : (Jvm.Cond.code ({ cls := "com/example/apportion/apportion/AppendOnlyList$Prefix", name := "<init>", desc := "([[Ljava/lang/Object;I)V" } : Jvm.MethodName) prog_2_method_1_code (3 : Nat) (Option.none : Option Jvm.ClassFile.FieldType)).before args0 about1 = true := code_word (m := ⟨4, 0⟩) (meth := k4m0) (c := k4c0) (by decide +kernel) rfl rfl rfl (by decide +kernel)
set_option maxRecDepth 65536 in
theorem w_c5 : (Jvm.Cond.code ({ cls := "com/example/apportion/apportion/AppendOnlyList$Prefix", name := "size", desc := "()I" } : Jvm.MethodName) prog_2_method_2_code (1 : Nat) (Option.some Jvm.ClassFile.FieldType.int)).before args0 about1 = true := code_word (m := ⟨4, 1⟩) (meth := k4m1) (c := k4c1) (by decide +kernel) rfl rfl rfl (by decide +kernel)
set_option maxRecDepth 65536 in
theorem w_c6 : (Jvm.Cond.code ({ cls := "com/example/apportion/apportion/AppendOnlyList$Prefix", name := "iterator", desc := "()Ljava/util/Iterator;" } : Jvm.MethodName) prog_2_method_3_code (1 : Nat) (Option.some (Jvm.ClassFile.FieldType.object "java/util/Iterator"))).before args0 about1 = true := code_word (m := ⟨4, 2⟩) (meth := k4m2) (c := k4c2) (by decide +kernel) rfl rfl rfl (by decide +kernel)
set_option maxRecDepth 65536 in
theorem w_c7 : (Jvm.Cond.code ({ cls := "com/example/apportion/apportion/AppendOnlyList$Prefix$1", name := "<init>", desc := "(Lcom/example/apportion/apportion/AppendOnlyList$Prefix;)V" } : Jvm.MethodName) prog_3_method_1_code (2 : Nat) (Option.none : Option Jvm.ClassFile.FieldType)).before args0 about1 = true := code_word (m := ⟨6, 0⟩) (meth := k6m0) (c := k6c0) (by decide +kernel) rfl rfl rfl (by decide +kernel)
set_option maxRecDepth 65536 in
theorem w_c8 : (Jvm.Cond.code ({ cls := "com/example/apportion/apportion/AppendOnlyList$Prefix$1", name := "hasNext", desc := "()Z" } : Jvm.MethodName) prog_3_method_2_code (1 : Nat) (Option.some Jvm.ClassFile.FieldType.boolean)).before args0 about1 = true := code_word (m := ⟨6, 1⟩) (meth := k6m1) (c := k6c1) (by decide +kernel) rfl rfl rfl (by decide +kernel)
set_option maxRecDepth 65536 in
theorem w_c9 : (Jvm.Cond.code ({ cls := "java/lang/Integer", name := "valueOf", desc := "(I)Ljava/lang/Integer;" } : Jvm.MethodName) jdk_33_method_22_code (1 : Nat) (Option.some (Jvm.ClassFile.FieldType.object "java/lang/Integer"))).before args0 about1 = true := code_word (m := ⟨12, 0⟩) (meth := k12m0) (c := k12c0) (by decide +kernel) rfl rfl rfl (by decide +kernel)
set_option maxRecDepth 65536 in
theorem w_c10 : (Jvm.Cond.code ({ cls := "com/example/apportion/apportion/AppendOnlyList", name := "add", desc := "(Ljava/lang/Object;)V" } : Jvm.MethodName) prog_1_method_2_code (3 : Nat) (Option.none : Option Jvm.ClassFile.FieldType)).before args0 about1 = true := code_word (m := ⟨2, 1⟩) (meth := k2m1) (c := k2c1) (by decide +kernel) rfl rfl rfl (by decide +kernel)
set_option maxRecDepth 65536 in
theorem w_c11 : (Jvm.Cond.code ({ cls := "java/lang/Integer", name := "<init>", desc := "(I)V" } : Jvm.MethodName) jdk_33_method_23_code (2 : Nat) (Option.none : Option Jvm.ClassFile.FieldType)).before args0 about1 = true := code_word (m := ⟨12, 1⟩) (meth := k12m1) (c := k12c1) (by decide +kernel) rfl rfl rfl (by decide +kernel)
set_option maxRecDepth 65536 in
theorem w_c12 : (Jvm.Cond.code ({ cls := "java/lang/Number", name := "<init>", desc := "()V" } : Jvm.MethodName) jdk_18_method_1_code (1 : Nat) (Option.none : Option Jvm.ClassFile.FieldType)).before args0 about1 = true := code_word (m := ⟨8, 0⟩) (meth := k8m0) (c := k8c0) (by decide +kernel) rfl rfl rfl (by decide +kernel)
set_option maxRecDepth 65536 in
theorem w_c13 : (Jvm.Cond.code ({ cls := "com/example/apportion/apportion/AppendOnlyList$Prefix$1", name := "next", desc := "()Ljava/lang/Object;" } : Jvm.MethodName) prog_3_method_3_code (2 : Nat) (Option.some (Jvm.ClassFile.FieldType.object "java/lang/Object"))).before args0 about1 = true := code_word (m := ⟨6, 2⟩) (meth := k6m2) (c := k6c2) (by decide +kernel) rfl rfl rfl (by decide +kernel)
set_option maxRecDepth 65536 in
theorem w_c14 : (Jvm.Cond.code ({ cls := "java/lang/Integer", name := "intValue", desc := "()I" } : Jvm.MethodName) jdk_33_method_27_code (1 : Nat) (Option.some Jvm.ClassFile.FieldType.int)).before args0 about1 = true := code_word (m := ⟨12, 2⟩) (meth := k12m2) (c := k12c2) (by decide +kernel) rfl rfl rfl (by decide +kernel)
def codes1 : List Jvm.Cond := [Jvm.Cond.code x code maxLocals ret, Jvm.Cond.code ({ cls := "com/example/apportion/apportion/AppendOnlyList", name := "<init>", desc := "()V" } : Jvm.MethodName) prog_1_method_1_code (1 : Nat) (Option.none : Option Jvm.ClassFile.FieldType), Jvm.Cond.code ({ cls := "java/lang/Object", name := "<init>", desc := "()V" } : Jvm.MethodName) object_method_1_code (1 : Nat) (Option.none : Option Jvm.ClassFile.FieldType), Jvm.Cond.code ({ cls := "com/example/apportion/apportion/AppendOnlyList", name := "prefix", desc := "()Lcom/example/apportion/apportion/AppendOnlyList$Prefix;" } : Jvm.MethodName) prog_1_method_3_code (1 : Nat) (Option.some (Jvm.ClassFile.FieldType.object "com/example/apportion/apportion/AppendOnlyList$Prefix")), Jvm.Cond.code ({ cls := "com/example/apportion/apportion/AppendOnlyList$Prefix", name := "<init>", desc := "([[Ljava/lang/Object;I)V" } : Jvm.MethodName) prog_2_method_1_code (3 : Nat) (Option.none : Option Jvm.ClassFile.FieldType), Jvm.Cond.code ({ cls := "com/example/apportion/apportion/AppendOnlyList$Prefix", name := "size", desc := "()I" } : Jvm.MethodName) prog_2_method_2_code (1 : Nat) (Option.some Jvm.ClassFile.FieldType.int), Jvm.Cond.code ({ cls := "com/example/apportion/apportion/AppendOnlyList$Prefix", name := "iterator", desc := "()Ljava/util/Iterator;" } : Jvm.MethodName) prog_2_method_3_code (1 : Nat) (Option.some (Jvm.ClassFile.FieldType.object "java/util/Iterator")), Jvm.Cond.code ({ cls := "com/example/apportion/apportion/AppendOnlyList$Prefix$1", name := "<init>", desc := "(Lcom/example/apportion/apportion/AppendOnlyList$Prefix;)V" } : Jvm.MethodName) prog_3_method_1_code (2 : Nat) (Option.none : Option Jvm.ClassFile.FieldType), Jvm.Cond.code ({ cls := "com/example/apportion/apportion/AppendOnlyList$Prefix$1", name := "hasNext", desc := "()Z" } : Jvm.MethodName) prog_3_method_2_code (1 : Nat) (Option.some Jvm.ClassFile.FieldType.boolean), Jvm.Cond.code ({ cls := "java/lang/Integer", name := "valueOf", desc := "(I)Ljava/lang/Integer;" } : Jvm.MethodName) jdk_33_method_22_code (1 : Nat) (Option.some (Jvm.ClassFile.FieldType.object "java/lang/Integer")), Jvm.Cond.code ({ cls := "com/example/apportion/apportion/AppendOnlyList", name := "add", desc := "(Ljava/lang/Object;)V" } : Jvm.MethodName) prog_1_method_2_code (3 : Nat) (Option.none : Option Jvm.ClassFile.FieldType), Jvm.Cond.code ({ cls := "java/lang/Integer", name := "<init>", desc := "(I)V" } : Jvm.MethodName) jdk_33_method_23_code (2 : Nat) (Option.none : Option Jvm.ClassFile.FieldType), Jvm.Cond.code ({ cls := "java/lang/Number", name := "<init>", desc := "()V" } : Jvm.MethodName) jdk_18_method_1_code (1 : Nat) (Option.none : Option Jvm.ClassFile.FieldType), Jvm.Cond.code ({ cls := "com/example/apportion/apportion/AppendOnlyList$Prefix$1", name := "next", desc := "()Ljava/lang/Object;" } : Jvm.MethodName) prog_3_method_3_code (2 : Nat) (Option.some (Jvm.ClassFile.FieldType.object "java/lang/Object")), Jvm.Cond.code ({ cls := "java/lang/Integer", name := "intValue", desc := "()I" } : Jvm.MethodName) jdk_33_method_27_code (1 : Nat) (Option.some Jvm.ClassFile.FieldType.int)]
set_option maxRecDepth 65536 in
theorem codes_eq : words1.filter isCode = codes1 := rfl
theorem w_codes : ∀ c ∈ words1.filter isCode, c.before args0 about1 = true := by
  rw [codes_eq]
  intro c hc
  simp only [codes1, List.mem_cons, List.not_mem_nil, or_false] at hc
  rcases hc with rfl | rfl | rfl | rfl | rfl | rfl | rfl | rfl | rfl | rfl | rfl | rfl | rfl | rfl | rfl
  · exact w_c0
  · exact w_c1
  · exact w_c2
  · exact w_c3
  · exact w_c4
  · exact w_c5
  · exact w_c6
  · exact w_c7
  · exact w_c8
  · exact w_c9
  · exact w_c10
  · exact w_c11
  · exact w_c12
  · exact w_c13
  · exact w_c14
set_option maxRecDepth 65536 in
theorem w_t1 : (words1.take 24).all (fun c => isCode c || c.before args0 about1) = true := by decide +kernel
set_option maxRecDepth 65536 in
theorem w_t2 : ((words1.drop 24).take 24).all (fun c => isCode c || c.before args0 about1) = true := by decide +kernel
set_option maxRecDepth 65536 in
theorem w_t3 : (((words1.drop 24).drop 24).take 24).all (fun c => isCode c || c.before args0 about1) = true := by decide +kernel
set_option maxRecDepth 65536 in
theorem w_t4 : ((((words1.drop 24).drop 24).drop 24).take 24).all (fun c => isCode c || c.before args0 about1) = true := by decide +kernel
set_option maxRecDepth 65536 in
theorem w_t5 : ((((words1.drop 24).drop 24).drop 24).drop 24).all (fun c => isCode c || c.before args0 about1) = true := by decide +kernel
theorem w_tables : (allAtoms (Jvm.Cond.code x code maxLocals ret :: tables_1)).before args0 about1 = true := by
  rw [allAtoms_all]
  show words1.all (fun c => c.before args0 about1) = true
  refine all_split ?_ w_codes
  rw [← List.take_append_drop 24 words1, List.all_append, w_t1, ← List.take_append_drop 24 (words1.drop 24), List.all_append, w_t2, ← List.take_append_drop 24 ((words1.drop 24).drop 24), List.all_append, w_t3, ← List.take_append_drop 24 (((words1.drop 24).drop 24).drop 24), List.all_append, w_t4, w_t5]
  rfl
set_option maxRecDepth 65536 in
theorem w_rest : rest_1_c.before args0 about1 = true := by decide +kernel
set_option maxRecDepth 65536 in
theorem w_case : (Jvm.Cond.and given_1 narrow_1).before args0 about1 = true := by decide +kernel
theorem w_applies : (headSpec (Jvm.Cond.code x code maxLocals ret :: tables_1) room_1).applies x e0.platform about1 = true :=
  (Spec.applies_iff w_frames).mpr ⟨w_running, w_runnable, w_alone, w_named, w_hears, w_ripe, w_room, w_tables⟩
theorem atStart : AtStart classFile x code maxLocals ret World_1 tables_1 room_1 Calls_1 rest_1 Pre_1 launch0 p0 e0 about1 theMethod args0 below0 :=
  ⟨lists_1, trivial, launch0.admits_env _ _ _, launch0.least_env, fairChoices_fair.cas, fairChoices_fair.clock, w_frames, w_args, w_heap, w_applies, trivial, w_rest, w_case⟩
end start1
theorem witness_1 : WitnessClaimed_1 := ⟨start1.p0, start1.e0, start1.about1, start1.theMethod, start1.args0, start1.below0, start1.atStart⟩
end Jvm.Pilot.@@N@@
