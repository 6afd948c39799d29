import JvmDerived
import JvmDerived.Pilot.@@N@@Statement
import JvmDerived.Pilot.@@N@@Code
set_option linter.unusedVariables false
set_option linter.unusedSimpArgs false
namespace Jvm.RoadKit
open Sem ClassFile Op Lib Jvm.Stand Jvm.Free Jvm.LawKit
section New
variable {p : Program} {l : Launch} {e : Env} {R : Room} {s : State} {m : MethodId} {args : Array Value} {below : List Frame} {meth : Method} {c : Code} {T : State} {locs : List Loc} {cells slots : Nat}
theorem retI (X : Stand p l e R s m args below meth c T locs cells slots) (hx : p.tables.exec = Jvm.exec) {pc : Nat} {Ls : Array Slot} {z : Int32} {rest : List Value} (hret : meth.sig.returnType = some .int) (hd : decode c.code pc = .ok (.ireturn, 1)) {fs : List Frame}
    (hl : ∀ (f : JFrame) (acts : List Action), f.method = m → f.locked = none → f.entered = [] → (doReturn e (T.setTop f) acts (some (.int z))).1 = T.setFrames fs) : Steps p.tables e below (T.setTop (mkF m pc Ls (.int z :: rest))) (T.setFrames fs) := by
  have hm' : T.vm.method? m = some meth := X.method'
  have hn : narrow .int (.int z) = .int z := rfl
  show Steps p.tables e below (T.setTop { method := m, pc := pc, locals := Ls, stack := _ :: rest, locked := none }) _
  jvm_step X.here [X.here.top, hx, hd, hm', hret, hn]
  first | (intro acts; rw [hl _ acts rfl rfl rfl]) | rw [hl _ _ rfl rfl rfl]
  exact Steps.refl _
end New
end Jvm.RoadKit
/- laws to paste: Road.backV, Road.eqW, Road.lenW, Road.empW (cut by pick.py; bodies as the Statement names them) -/
namespace Jvm.Pilot.@@N@@
namespace StrChars
open Jvm Sem ClassFile Op Lib Jvm.Stand Jvm.Free.XT Jvm.Free.ALB Jvm.Free.JM Jvm.Free
open Jvm.Lib.Cold (StaticIs)
/-- a char array whose places are chars -/
def Ch (a : Addr) (A : Cell) (U : State) : Prop := Arr .char a A U ∧ Typed .char A
theorem Ch.mv {a : Addr} {A : Cell} {U U' : State} (h : Ch a A U) (hal : U.vm.Alike U'.vm) (hh : U'.heap = U.heap) : Ch a A U' := ⟨h.1.mv hal hh, h.2⟩
theorem Ch.keep {a : Addr} {A : Cell} {U U' : State} (h : Ch a A U) (hal : U.vm.Alike U'.vm) (hk : U'.heap[a]? = some A) : Ch a A U' := ⟨h.1.keep hal hk, h.2⟩
/-- what place i of a char[]'s cell holds -/
def cv (A : Cell) (i : Nat) : Int32 := match A.slots[i]? with | some (.int x) => x | _ => 0
theorem Ch.get {a : Addr} {A : Cell} {U : State} (h : Ch a A U) {i : Nat} (hi : i < A.slots.size) : A.slots[i]? = some (.int (cv A i)) := by
  have e := Array.getElem?_eq_getElem hi
  have f := h.2 i _ e
  unfold cv; rw [e]
  generalize A.slots[i] = v at f
  cases v <;> simp [fits] at f ⊢
/-- the byte that i2b leaves of a char -/
def lo8 (x : Int32) : Int32 := x.toInt8.toInt32
theorem fits_lo8 (y : Int32) : fits .byte (.int (lo8 y)) = true := by
  have h1 := y.toInt8.le_toInt
  have h2 := y.toInt8.toInt_lt
  simp only [lo8, fits, Bool.and_eq_true, decide_eq_true_eq, Int32.le_iff_toInt_le, Int8.toInt_toInt32, show (-128 : Int32).toInt = -128 from by decide, show (127 : Int32).toInt = 127 from by decide]
  omega
/-- A' is A but that each place j of lo .. hi - 1 holds f j -/
def Laid (A A' : Cell) (lo hi : Nat) (f : Nat → Value) : Prop := A'.cls = A.cls ∧ A'.vm = A.vm ∧ A'.slots.size = A.slots.size ∧ ∀ i, A'.slots[i]? = if lo ≤ i ∧ i < hi then some (f i) else A.slots[i]?
theorem Laid.zero (A : Cell) (lo : Nat) (f : Nat → Value) : Laid A A lo (lo + 0) f := ⟨rfl, rfl, rfl, fun i => by rw [if_neg (by omega)]⟩
theorem Laid.step {A Ak : Cell} {lo k : Nat} {f : Nat → Value} {v : Value} (h : Laid A Ak lo k f) (hlo : lo ≤ k) (hk : k < Ak.slots.size) (hv : v = f k) : Laid A (Ak.setSlot k v) lo (k + 1) f := by
  refine ⟨h.1, h.2.1, by simpa [Cell.setSlot] using h.2.2.1, fun i => ?_⟩
  by_cases e : k = i
  · subst e; rw [Cell.slots_setSlot_self v hk, if_pos (by omega), hv]
  · rw [Cell.slots_setSlot_ne v e, h.2.2.2 i]
    by_cases q : lo ≤ i ∧ i < k
    · rw [if_pos q, if_pos (by omega)]
    · rw [if_neg q, if_neg (by omega)]
def U16 : String := "java/lang/StringUTF16"
namespace Cmp5
def yN : MethodName := ⟨"java/lang/StringUTF16", "compress", "([CI[BII)I"⟩
abbrev yB : ByteArray := jdk_52_method_21_code
theorem d0 : decode yB 0 = .ok (.iconst 0, 1) := by decide +kernel
theorem d1 : decode yB 1 = .ok (.istore 5, 2) := by decide +kernel
theorem d3 : decode yB 3 = .ok (.iload 5, 2) := by decide +kernel
theorem d5 : decode yB 5 = .ok (.iload 4, 2) := by decide +kernel
theorem d7 : decode yB 7 = .ok (.if_icmp (.ge) 37, 3) := by decide +kernel
theorem d10 : decode yB 10 = .ok (.aload_n 0, 1) := by decide +kernel
theorem d11 : decode yB 11 = .ok (.iload_n 1, 1) := by decide +kernel
theorem d12 : decode yB 12 = .ok (.caload, 1) := by decide +kernel
theorem d13 : decode yB 13 = .ok (.istore 6, 2) := by decide +kernel
theorem d15 : decode yB 15 = .ok (.iload 6, 2) := by decide +kernel
theorem d17 : decode yB 17 = .ok (.sipush 255, 3) := by decide +kernel
theorem d20 : decode yB 20 = .ok (.if_icmp (.le) 6, 3) := by decide +kernel
theorem d26 : decode yB 26 = .ok (.aload_n 2, 1) := by decide +kernel
theorem d27 : decode yB 27 = .ok (.iload_n 3, 1) := by decide +kernel
theorem d28 : decode yB 28 = .ok (.iload 6, 2) := by decide +kernel
theorem d30 : decode yB 30 = .ok (.i2b, 1) := by decide +kernel
theorem d31 : decode yB 31 = .ok (.bastore, 1) := by decide +kernel
theorem d32 : decode yB 32 = .ok (.iinc 1 1, 3) := by decide +kernel
theorem d35 : decode yB 35 = .ok (.iinc 3 1, 3) := by decide +kernel
theorem d38 : decode yB 38 = .ok (.iinc 5 1, 3) := by decide +kernel
theorem d41 : decode yB 41 = .ok (.goto (-38), 3) := by decide +kernel
theorem d44 : decode yB 44 = .ok (.iload 4, 2) := by decide +kernel
theorem d46 : decode yB 46 = .ok (.ireturn, 1) := by decide +kernel
def site : List Cond := []
def tab : Cond := tabOf yN yB 7 (some .int) site
def P (b : Addr) (A : Cell) (d : Addr) (B : Cell) (o q len : Nat) (args : Array Value) (s : State) : Prop := args = #[.ref b, .int (Int32.ofNat o), .ref d, .int (Int32.ofNat q), .int (Int32.ofNat len)] ∧ Ch b A s ∧ Arr .byte d B s ∧ b ≠ d ∧ o + len ≤ A.slots.size ∧ q + len ≤ B.slots.size ∧ ∀ i, i < len → ¬ 255 < cv A (o + i)
def E (b : Addr) (A : Cell) (d : Addr) (B : Cell) (o q len : Nat) (r : Option Value) (s u : State) : Prop := r = some (.int (Int32.ofNat len)) ∧ ∃ B', Put d B' s u ∧ Laid B B' q (q + len) (fun j => Value.int (lo8 (cv A (o + (j - q)))))
/-- no char of the range above 255: len; the places written hold each char's low byte -/
theorem law (l : Launch) (b : Addr) (A : Cell) (d : Addr) (B : Cell) (o q len : Nat) : Law l yN 5 5 0 0 yB 7 (some .int) site (P b A d B o q len) (E b A d B o q len) (copyLocs d q len) 0 0 := by
  refine Law.of_walk (plainFor_of_name (by decide +kernel)) (by decide +kernel) (by decide +kernel) (by decide) (fun _ _ h => by rw [h.1]; rfl) (fun _ U U' hal hh h => ⟨h.1, h.2.1.mv hal hh, h.2.2.1.mv hal hh, h.2.2.2⟩) (fun r U U' V V' h1 hal h2 h => ⟨h.1, h.2.elim fun B' q => ⟨B', q.1.mv h1 h2, q.2⟩⟩) ?_
  intro p e s m args below meth c s₁ X0 hexec hbytes hml hret hlk hnm hown hh0 W hP
  obtain ⟨rfl, hA, hB, hne, l1, l2, hp⟩ := hP
  have c1 : Steps p.tables e below (s₁.setTop (entryFrame m #[.ref b, .int (Int32.ofNat o), .ref d, .int (Int32.ofNat q), .int (Int32.ofNat len)] 7)) (s₁.setTop (mkF m 0 #[.val (.ref b), .val (.int (Int32.ofNat o)), .val (.ref d), .val (.int (Int32.ofNat q)), .val (.int (Int32.ofNat len)), .unset, .unset] [])) := entry rfl
  have hA0 := hA.1.mv X0.warmed.alike hh0
  have hB0 := hB.mv X0.warmed.alike hh0
  have a31 := hA.1.2.2.2
  have c2 : Steps p.tables e below (s₁.setTop (entryFrame m #[.ref b, .int (Int32.ofNat o), .ref d, .int (Int32.ofNat q), .int (Int32.ofNat len)] 7)) (s₁.setTop (mkF m 3 #[.val (.ref b), .val (.int (Int32.ofNat o)), .val (.ref d), .val (.int (Int32.ofNat q)), .val (.int (Int32.ofNat len)), .val (.int 0), .unset] [])) := c1.trans (by
    refine iconstV X0.here hexec rfl 0 (hb hbytes d0) (by decide) ?_
    refine XS.istore X0.here hexec rfl (hb hbytes d1) rfl rfl ?_
    exact Steps.refl _)
  have loop : ∀ (r i : Nat), i + r = len → ∀ (z : Slot), (z = .unset ∨ ∃ w, z = .val w ∧ w.category = 1) → ∀ (Tl : State) (Bk : Cell), Stand p l e { frames := 0, locals := 0, cells := 0, slots := 0 } s m #[.ref b, .int (Int32.ofNat o), .ref d, .int (Int32.ofNat q), .int (Int32.ofNat len)] below meth c Tl ([] ++ copyLocs d q i) 0 0 → Put d Bk s₁ Tl → Laid B Bk q (q + i) (fun j => Value.int (lo8 (cv A (o + (j - q))))) →
      Steps p.tables e below (s₁.setTop (entryFrame m #[.ref b, .int (Int32.ofNat o), .ref d, .int (Int32.ofNat q), .int (Int32.ofNat len)] 7)) (Tl.setTop (mkF m 3 #[.val (.ref b), .val (.int (Int32.ofNat (o + i))), .val (.ref d), .val (.int (Int32.ofNat (q + i))), .val (.int (Int32.ofNat len)), .val (.int (Int32.ofNat i)), z] [])) → ∃ (T' : State) (B' : Cell) (z' : Slot), Stand p l e { frames := 0, locals := 0, cells := 0, slots := 0 } s m #[.ref b, .int (Int32.ofNat o), .ref d, .int (Int32.ofNat q), .int (Int32.ofNat len)] below meth c T' ([] ++ copyLocs d q len) 0 0 ∧ Put d B' s₁ T' ∧ Laid B B' q (q + len) (fun j => Value.int (lo8 (cv A (o + (j - q))))) ∧
      Steps p.tables e below (s₁.setTop (entryFrame m #[.ref b, .int (Int32.ofNat o), .ref d, .int (Int32.ofNat q), .int (Int32.ofNat len)] 7)) (T'.setTop (mkF m 3 #[.val (.ref b), .val (.int (Int32.ofNat (o + len))), .val (.ref d), .val (.int (Int32.ofNat (q + len))), .val (.int (Int32.ofNat len)), .val (.int (Int32.ofNat len)), z'] [])) := by
    intro r
    induction r with
    | zero =>
      intro i hi z hz Tl Bk Xl pl fl cl
      have hil : i = len := by omega
      rw [hil] at Xl fl cl
      exact ⟨Tl, Bk, z, Xl, pl, fl, cl⟩
    | succ r ih =>
      intro i hi z hz Tl Bk Xl pl fl cl
      have all := X0.warmed.alike.symm.trans Xl.warmed.alike
      have hAl := hA0.keep all (pl.other hne hA0.1)
      have hBk := hB0.like all pl.1 fl.1 fl.2.1 fl.2.2.1
      have hlt : q + i < Bk.slots.size := by rw [fl.2.2.1]; omega
      have c3 : Steps p.tables e below (s₁.setTop (entryFrame m #[.ref b, .int (Int32.ofNat o), .ref d, .int (Int32.ofNat q), .int (Int32.ofNat len)] 7)) (Tl.setTop (mkF m 12 #[.val (.ref b), .val (.int (Int32.ofNat (o + i))), .val (.ref d), .val (.int (Int32.ofNat (q + i))), .val (.int (Int32.ofNat len)), .val (.int (Int32.ofNat i)), z] [.int (Int32.ofNat (o + i)), .ref b])) := cl.trans (by
        refine XS.iload Xl.here hexec rfl (hb hbytes d3) rfl ?_
        refine XS.iload Xl.here hexec rfl (hb hbytes d5) rfl ?_
        refine XS.icmpNo Xl.here hexec rfl (hb hbytes d7) rfl (ii_ge_f (lt32 (by omega) (by omega))) ?_
        refine XS.aloadN Xl.here hexec rfl (hb hbytes d10) rfl rfl ?_
        refine XS.iloadN Xl.here hexec rfl (hb hbytes d11) rfl ?_
        exact Steps.refl _)
      have c4 : Steps p.tables e below (s₁.setTop (entryFrame m #[.ref b, .int (Int32.ofNat o), .ref d, .int (Int32.ofNat q), .int (Int32.ofNat len)] 7)) (Tl.setTop (mkF m 13 #[.val (.ref b), .val (.int (Int32.ofNat (o + i))), .val (.ref d), .val (.int (Int32.ofNat (q + i))), .val (.int (Int32.ofNat len)), .val (.int (Int32.ofNat i)), z] [.int (cv A (o + i))])) := c3.trans (by
        refine Xl.aget hexec hAl rfl (hA.get (i := o + i) (by omega)) rfl rfl (hb hbytes d12) ?_
        exact Steps.refl _)
      have c5 : Steps p.tables e below (s₁.setTop (entryFrame m #[.ref b, .int (Int32.ofNat o), .ref d, .int (Int32.ofNat q), .int (Int32.ofNat len)] 7)) (Tl.setTop (mkF m 15 #[.val (.ref b), .val (.int (Int32.ofNat (o + i))), .val (.ref d), .val (.int (Int32.ofNat (q + i))), .val (.int (Int32.ofNat len)), .val (.int (Int32.ofNat i)), .val (.int (cv A (o + i)))] [])) := c4.trans (by
        refine XS.istoreS Xl.here hexec rfl (hb hbytes d13) rfl rfl hz ?_
        exact Steps.refl _)
      have c6 : Steps p.tables e below (s₁.setTop (entryFrame m #[.ref b, .int (Int32.ofNat o), .ref d, .int (Int32.ofNat q), .int (Int32.ofNat len)] 7)) (Tl.setTop (mkF m 31 #[.val (.ref b), .val (.int (Int32.ofNat (o + i))), .val (.ref d), .val (.int (Int32.ofNat (q + i))), .val (.int (Int32.ofNat len)), .val (.int (Int32.ofNat i)), .val (.int (cv A (o + i)))] [.int (lo8 (cv A (o + i))), .int (Int32.ofNat (q + i)), .ref d])) := c5.trans (by
        refine XS.iload Xl.here hexec rfl (hb hbytes d15) rfl ?_
        refine sipushV Xl.here hexec rfl 255 (hb hbytes d17) (by decide) ?_
        refine XS.icmpYes Xl.here hexec rfl (pc0 := 20) rfl (hb hbytes d20) rfl (ii_le_t (hp i (by omega))) (by decide) rfl ?_
        refine XS.aloadN Xl.here hexec rfl (hb hbytes d26) rfl rfl ?_
        refine XS.iloadN Xl.here hexec rfl (hb hbytes d27) rfl ?_
        refine XS.iload Xl.here hexec rfl (hb hbytes d28) rfl ?_
        refine i2b Xl.here hexec rfl (hb hbytes d30) rfl ?_
        exact Steps.refl _)
      obtain ⟨T7, X7, p7, st7⟩ := Xl.aput hexec hBk rfl hlt rfl (fits_lo8 (cv A (o + i))) (g := (mkF m 31 #[.val (.ref b), .val (.int (Int32.ofNat (o + i))), .val (.ref d), .val (.int (Int32.ofNat (q + i))), .val (.int (Int32.ofNat len)), .val (.int (Int32.ofNat i)), .val (.int (cv A (o + i)))] [.int (lo8 (cv A (o + i))), .int (Int32.ofNat (q + i)), .ref d])) rfl (rest := []) rfl (hb hbytes d31)
      have c8 : Steps p.tables e below (s₁.setTop (entryFrame m #[.ref b, .int (Int32.ofNat o), .ref d, .int (Int32.ofNat q), .int (Int32.ofNat len)] 7)) (T7.setTop (mkF m 32 #[.val (.ref b), .val (.int (Int32.ofNat (o + i))), .val (.ref d), .val (.int (Int32.ofNat (q + i))), .val (.int (Int32.ofNat len)), .val (.int (Int32.ofNat i)), .val (.int (cv A (o + i)))] [])) := c6.trans (st7 _ (Steps.refl _))
      have c9 : Steps p.tables e below (s₁.setTop (entryFrame m #[.ref b, .int (Int32.ofNat o), .ref d, .int (Int32.ofNat q), .int (Int32.ofNat len)] 7)) (T7.setTop (mkF m 3 #[.val (.ref b), .val (.int (Int32.ofNat (o + i) + 1)), .val (.ref d), .val (.int (Int32.ofNat (q + i) + 1)), .val (.int (Int32.ofNat len)), .val (.int (Int32.ofNat i + 1)), .val (.int (cv A (o + i)))] [])) := c8.trans (by
        refine iincV X7.here hexec rfl 1 (hb hbytes d32) (by decide) rfl rfl ?_
        refine iincV X7.here hexec rfl 1 (hb hbytes d35) (by decide) rfl rfl ?_
        refine iincV X7.here hexec rfl 1 (hb hbytes d38) (by decide) rfl rfl ?_
        refine XS.goto X7.here hexec rfl (pc0 := 41) rfl (hb hbytes d41) (by decide) rfl ?_
        exact Steps.refl _)
      have c10 : Steps p.tables e below (s₁.setTop (entryFrame m #[.ref b, .int (Int32.ofNat o), .ref d, .int (Int32.ofNat q), .int (Int32.ofNat len)] 7)) (T7.setTop (mkF m 3 #[.val (.ref b), .val (.int (Int32.ofNat (o + (i + 1)))), .val (.ref d), .val (.int (Int32.ofNat (q + (i + 1)))), .val (.int (Int32.ofNat len)), .val (.int (Int32.ofNat (i + 1))), .val (.int (cv A (o + i)))] [])) := by
        have := c9
        rw [succ32, succ32, succ32] at this
        exact this
      exact ih (i + 1) (by omega) _ (Or.inr ⟨_, rfl, rfl⟩) T7 _ (by rw [copyLocs_step, ← List.append_assoc]; exact X7) (pl.trans p7) (fl.step (by omega) hlt (by simp)) c10
  obtain ⟨T9, B9, z9, X9, p9, f9, g9⟩ := loop len 0 (by omega) .unset (Or.inl rfl) s₁ B (by simpa [copyLocs] using X0) ⟨hB0.1, fun _ _ => rfl, rfl⟩ (Laid.zero _ _ _) c2
  have c11 : Steps p.tables e below (s₁.setTop (entryFrame m #[.ref b, .int (Int32.ofNat o), .ref d, .int (Int32.ofNat q), .int (Int32.ofNat len)] 7)) (T9.setTop (mkF m 46 #[.val (.ref b), .val (.int (Int32.ofNat (o + len))), .val (.ref d), .val (.int (Int32.ofNat (q + len))), .val (.int (Int32.ofNat len)), .val (.int (Int32.ofNat len)), z9] [.int (Int32.ofNat len)])) := g9.trans (by
    refine XS.iload X9.here hexec rfl (hb hbytes d3) rfl ?_
    refine XS.iload X9.here hexec rfl (hb hbytes d5) rfl ?_
    refine XS.icmpYes X9.here hexec rfl (pc0 := 7) rfl (hb hbytes d7) rfl (ii_ge_t (nlt32 (by omega) (Nat.le_refl _))) (by decide) rfl ?_
    refine XS.iload X9.here hexec rfl (hb hbytes d44) rfl ?_
    exact Steps.refl _)
  exact ⟨T9, some (.int (Int32.ofNat len)), _, _, _, X9, by simp, rfl, rfl, (fun h => by cases h), ⟨rfl, B9, p9.from hh0, f9⟩, fun fs hl => c11.trans (X9.ireturnOut hexec hret rfl (Or.inl rfl) (hb hbytes d46) hl)⟩
end Cmp5
namespace Cmp3
def yN : MethodName := ⟨"java/lang/StringUTF16", "compress", "([CII)[B"⟩
abbrev yB : ByteArray := jdk_52_method_16_code
theorem d0 : decode yB 0 = .ok (.iload_n 2, 1) := by decide +kernel
theorem d1 : decode yB 1 = .ok (.newarray .byte, 2) := by decide +kernel
theorem d3 : decode yB 3 = .ok (.astore_n 3, 1) := by decide +kernel
theorem d4 : decode yB 4 = .ok (.aload_n 0, 1) := by decide +kernel
theorem d5 : decode yB 5 = .ok (.iload_n 1, 1) := by decide +kernel
theorem d6 : decode yB 6 = .ok (.aload_n 3, 1) := by decide +kernel
theorem d7 : decode yB 7 = .ok (.iconst 0, 1) := by decide +kernel
theorem d8 : decode yB 8 = .ok (.iload_n 2, 1) := by decide +kernel
theorem d9 : decode yB 9 = .ok (.invokestatic 115, 3) := by decide +kernel
theorem d12 : decode yB 12 = .ok (.istore 4, 2) := by decide +kernel
theorem d14 : decode yB 14 = .ok (.iload 4, 2) := by decide +kernel
theorem d16 : decode yB 16 = .ok (.iload_n 2, 1) := by decide +kernel
theorem d17 : decode yB 17 = .ok (.if_icmp (.eq) 40, 3) := by decide +kernel
theorem d57 : decode yB 57 = .ok (.aload_n 3, 1) := by decide +kernel
theorem d58 : decode yB 58 = .ok (.areturn, 1) := by decide +kernel
def site : List Cond := [.arrayClass .byte, Cmp5.tab] ++ staticW U16 115 Cmp5.yN
def tab : Cond := tabOf yN yB 6 (some (.array .byte)) site
def P (b : Addr) (A : Cell) (o len : Nat) (args : Array Value) (s : State) : Prop := args = #[.ref b, .int (Int32.ofNat o), .int (Int32.ofNat len)] ∧ Ch b A s ∧ o + len ≤ A.slots.size ∧ len ≤ 536870912 ∧ ∀ i, i < len → ¬ 255 < cv A (o + i)
def E (b : Addr) (A : Cell) (o len : Nat) (r : Option Value) (s u : State) : Prop := NewArr .byte "[B" len (fun j => .int (lo8 (cv A (o + j)))) r s u ∧ u.heap.size = s.heap.size + 1
/-- no char of the range above 255: a new byte[] of their low bytes -/
theorem law (l : Launch) (b : Addr) (A : Cell) (o len : Nat) : Law l yN 3 3 1 18 yB 6 (some (.array .byte)) site (P b A o len) (E b A o len) [] 1 len := by
  refine Law.of_walk (plainFor_of_name (by decide +kernel)) (by decide +kernel) (by decide +kernel) (by decide) (fun _ _ h => by rw [h.1]; rfl) (fun _ U U' hal hh h => ⟨h.1, h.2.1.mv hal hh, h.2.2⟩) (fun r U U' V V' h1 hal h2 h => ⟨NewArr.mv r U U' V V' h1 hal h2 h.1, by rw [h1, h2]; exact h.2⟩) ?_
  intro p e s m args below meth c s₁ X0 hexec hbytes hml hret hlk hnm hown hh0 W hP
  obtain ⟨rfl, hA, l1, l2, hp⟩ := hP
  have a31 := hA.1.2.2.2
  have c1 : Steps p.tables e below (s₁.setTop (entryFrame m #[.ref b, .int (Int32.ofNat o), .int (Int32.ofNat len)] 6)) (s₁.setTop (mkF m 0 #[.val (.ref b), .val (.int (Int32.ofNat o)), .val (.int (Int32.ofNat len)), .unset, .unset, .unset] [])) := entry rfl
  have c2 : Steps p.tables e below (s₁.setTop (entryFrame m #[.ref b, .int (Int32.ofNat o), .int (Int32.ofNat len)] 6)) (s₁.setTop (mkF m 1 #[.val (.ref b), .val (.int (Int32.ofNat o)), .val (.int (Int32.ofNat len)), .unset, .unset, .unset] [.int (Int32.ofNat len)])) := c1.trans (by
    refine XS.iloadN X0.here hexec rfl (hb hbytes d0) rfl ?_
    exact Steps.refl _)
  obtain ⟨T3, B3, X3, ba3, bs3, bv3, bh3, bf3, st3⟩ := X0.anew hexec (atype := .byte) (wk W (.arrayClass .byte)) rfl (by show len * 1 ≤ _; omega) (by omega) (g := (mkF m 1 #[.val (.ref b), .val (.int (Int32.ofNat o)), .val (.int (Int32.ofNat len)), .unset, .unset, .unset] [.int (Int32.ofNat len)])) rfl (hb hbytes d1) (rest := []) rfl (Nat.le_refl _) (by show 0 + len ≤ len; omega)
  rw [hh0] at ba3 st3
  have kp3 : XT.Kept s T3 := (XT.Kept.of_eq hh0).push bh3
  have hA3 := hA.keep X3.warmed.alike (kp3 _ _ hA.1.1)
  have hne : b ≠ s.heap.size := hA.1.ne
  have c4 : Steps p.tables e below (s₁.setTop (entryFrame m #[.ref b, .int (Int32.ofNat o), .int (Int32.ofNat len)] 6)) (T3.setTop (mkF m 3 #[.val (.ref b), .val (.int (Int32.ofNat o)), .val (.int (Int32.ofNat len)), .unset, .unset, .unset] [.ref s.heap.size])) := c2.trans (st3 _ (Steps.refl _))
  have c5 : Steps p.tables e below (s₁.setTop (entryFrame m #[.ref b, .int (Int32.ofNat o), .int (Int32.ofNat len)] 6)) (T3.setTop (mkF m 9 #[.val (.ref b), .val (.int (Int32.ofNat o)), .val (.int (Int32.ofNat len)), .val (.ref s.heap.size), .unset, .unset] [.int (Int32.ofNat len), .int 0, .ref s.heap.size, .int (Int32.ofNat o), .ref b])) := c4.trans (by
    refine XS.astoreN X3.here hexec rfl (hb hbytes d3) rfl rfl rfl ?_
    refine XS.aloadN X3.here hexec rfl (hb hbytes d4) rfl rfl ?_
    refine XS.iloadN X3.here hexec rfl (hb hbytes d5) rfl ?_
    refine XS.aloadN X3.here hexec rfl (hb hbytes d6) rfl rfl ?_
    refine iconstV X3.here hexec rfl 0 (hb hbytes d7) (by decide) ?_
    refine XS.iloadN X3.here hexec rfl (hb hbytes d8) rfl ?_
    exact Steps.refl _)
  obtain ⟨v6, T6, X6, E6, g6⟩ := X3.callS hexec (Cmp5.law l b A s.heap.size B3 o 0 len) hown (wks W (staticW U16 115 Cmp5.yN)) (wk W Cmp5.tab) (W := 0) (Nat.le_of_ble_eq_true rfl) (Nat.le_of_ble_eq_true rfl) (Nat.le_refl _) (by show 0 + len + 0 ≤ len; omega) (g := (mkF m 9 #[.val (.ref b), .val (.int (Int32.ofNat o)), .val (.int (Int32.ofNat len)), .val (.ref s.heap.size), .unset, .unset] [.int (Int32.ofNat len), .int (Int32.ofNat 0), .ref s.heap.size, .int (Int32.ofNat o), .ref b])) rfl (by rw [hml]; rfl) c5 (argsL := [.ref b, .int (Int32.ofNat o), .ref s.heap.size, .int (Int32.ofNat 0), .int (Int32.ofNat len)]) (rest := []) rfl rfl (by show 2 * 0 + 0 ≤ _; decide) (hb hbytes d9) (⟨rfl, hA3, ba3, hne, l1, by rw [bs3]; simp, hp⟩)
  obtain ⟨rfl, B6, p6, f6⟩ := E6
  have c7 : Steps p.tables e below (s₁.setTop (entryFrame m #[.ref b, .int (Int32.ofNat o), .int (Int32.ofNat len)] 6)) (T6.setTop (mkF m 12 #[.val (.ref b), .val (.int (Int32.ofNat o)), .val (.int (Int32.ofNat len)), .val (.ref s.heap.size), .unset, .unset] [.int (Int32.ofNat len)])) := g6
  have c8 : Steps p.tables e below (s₁.setTop (entryFrame m #[.ref b, .int (Int32.ofNat o), .int (Int32.ofNat len)] 6)) (T6.setTop (mkF m 58 #[.val (.ref b), .val (.int (Int32.ofNat o)), .val (.int (Int32.ofNat len)), .val (.ref s.heap.size), .val (.int (Int32.ofNat len)), .unset] [.ref s.heap.size])) := c7.trans (by
    refine XS.istore X6.here hexec rfl (hb hbytes d12) rfl rfl ?_
    refine XS.iload X6.here hexec rfl (hb hbytes d14) rfl ?_
    refine XS.iloadN X6.here hexec rfl (hb hbytes d16) rfl ?_
    refine XS.icmpYes X6.here hexec rfl (pc0 := 17) rfl (hb hbytes d17) rfl (ii_eq_t rfl) (by decide) rfl ?_
    refine XS.aloadN X6.here hexec rfl (hb hbytes d57) rfl rfl ?_
    exact Steps.refl _)
  have X8 := X6.wide (L' := []) (cells' := 1) (slots' := len) (fun x hx hlt => by
    simp only [List.nil_append, copyLocs, List.mem_map, List.mem_range] at hx
    obtain ⟨i, -, rfl⟩ := hx
    exact absurd hlt (Nat.lt_irrefl _)) (Nat.le_refl _) (by omega)
  exact ⟨T6, some (.ref s.heap.size), _, _, _, X8, rfl, rfl, rfl, (fun h => by cases h), ⟨⟨rfl, B6, ba3.like (X3.warmed.alike.symm.trans X6.warmed.alike) p6.1 f6.1 f6.2.1 f6.2.2.1, f6.2.1.trans bv3, by rw [X6.warmed.alike.findClass, f6.1]; exact bf3, by rw [f6.2.2.1, bs3]; simp, fun j hj => by rw [f6.2.2.2 j, if_pos (by omega)]; rfl, kp3.put p6 (Nat.le_refl _)⟩, by rw [p6.2.2, bh3, hh0]; simp⟩, fun fs hl => c8.trans (X8.areturnOut hexec rfl hret rfl (hb hbytes d58) hl)⟩
end Cmp3
namespace CodL
def yN : MethodName := ⟨"java/lang/StringUTF16", "coderFromArrayLen", "([BI)B"⟩
abbrev yB : ByteArray := jdk_52_method_15_code
theorem d0 : decode yB 0 = .ok (.iload_n 1, 1) := by decide +kernel
theorem d1 : decode yB 1 = .ok (.aload_n 0, 1) := by decide +kernel
theorem d2 : decode yB 2 = .ok (.arraylength, 1) := by decide +kernel
theorem d3 : decode yB 3 = .ok (.isub, 1) := by decide +kernel
theorem d4 : decode yB 4 = .ok (.bipush 31, 2) := by decide +kernel
theorem d6 : decode yB 6 = .ok (.iushr, 1) := by decide +kernel
theorem d7 : decode yB 7 = .ok (.i2b, 1) := by decide +kernel
theorem d8 : decode yB 8 = .ok (.ireturn, 1) := by decide +kernel
def site : List Cond := []
def tab : Cond := tabOf yN yB 2 (some .byte) site
def P (d : Addr) (B : Cell) (args : Array Value) (s : State) : Prop := args = #[.ref d, .int (Int32.ofNat B.slots.size)] ∧ Arr .byte d B s
def E (r : Option Value) (s u : State) : Prop := XT.PureE (some (.int 0)) r s u
/-- an array as long as the number of chars: LATIN1 -/
theorem law (l : Launch) (d : Addr) (B : Cell) : Law l yN 2 2 0 0 yB 2 (some .byte) site (P d B) E [] 0 0 := by
  refine Law.of_walk (plainFor_of_name (by decide +kernel)) (by decide +kernel) (by decide +kernel) (by decide) (fun _ _ h => by rw [h.1]; rfl) (fun _ U U' hal hh h => ⟨h.1, h.2.mv hal hh⟩) (fun r U U' V V' h1 hal h2 h => XT.PureE.mv r U U' V V' h1 hal h2 h) ?_
  intro p e s m args below meth c s₁ X0 hexec hbytes hml hret hlk hnm hown hh0 W hP
  obtain ⟨rfl, hB⟩ := hP
  have hB0 := hB.mv X0.warmed.alike hh0
  have c1 : Steps p.tables e below (s₁.setTop (entryFrame m #[.ref d, .int (Int32.ofNat B.slots.size)] 2)) (s₁.setTop (mkF m 0 #[.val (.ref d), .val (.int (Int32.ofNat B.slots.size))] [])) := entry rfl
  have c2 : Steps p.tables e below (s₁.setTop (entryFrame m #[.ref d, .int (Int32.ofNat B.slots.size)] 2)) (s₁.setTop (mkF m 2 #[.val (.ref d), .val (.int (Int32.ofNat B.slots.size))] [.ref d, .int (Int32.ofNat B.slots.size)])) := c1.trans (by
    refine XS.iloadN X0.here hexec rfl (hb hbytes d0) rfl ?_
    refine XS.aloadN X0.here hexec rfl (hb hbytes d1) rfl rfl ?_
    exact Steps.refl _)
  have c3 : Steps p.tables e below (s₁.setTop (entryFrame m #[.ref d, .int (Int32.ofNat B.slots.size)] 2)) (s₁.setTop (mkF m 8 #[.val (.ref d), .val (.int (Int32.ofNat B.slots.size))] [.int (lo8 (ushr (Int32.ofNat B.slots.size - Int32.ofNat B.slots.size) 31))])) := c2.trans (by
    refine X0.alen hexec hB0 rfl rfl (hb hbytes d2) ?_
    refine XS.isub X0.here hexec rfl (hb hbytes d3) rfl ?_
    refine bipushV X0.here hexec rfl 31 (hb hbytes d4) (by decide) ?_
    refine iushr X0.here hexec rfl (hb hbytes d6) rfl ?_
    refine i2b X0.here hexec rfl (hb hbytes d7) rfl ?_
    exact Steps.refl _)
  have e0 : lo8 (ushr (Int32.ofNat B.slots.size - Int32.ofNat B.slots.size) 31) = 0 := by rw [Int32.sub_self]; decide
  rw [e0] at c3
  exact ⟨s₁, some (.int 0), _, _, _, X0, rfl, rfl, rfl, (fun h => by cases h), ⟨rfl, hh0⟩, fun fs hl => c3.trans (X0.ireturnOut hexec hret rfl (Or.inr (Or.inr (Or.inl rfl))) (hb hbytes d8) hl)⟩
end CodL
/-- the String at a is Latin-1 over a new byte[] (the heap's one new cell): the low bytes of the len chars of A from o on; every cell but a is kept -/
def Got (a : Addr) (D : Cell) (fV fC : Field) (A : Cell) (o len : Nat) (r : Option Value) (s u : State) : Prop := r = none ∧ ∃ D' V : Cell, Blank "java/lang/String" a D' u ∧ Same D D' [fV.slot, fC.slot] ∧ D'.slots[fV.slot]? = some (.ref s.heap.size) ∧ D'.slots[fC.slot]? = some (.int 0) ∧ Arr .byte s.heap.size V u ∧ V.vm = .none ∧ u.vm.findClass "[B" = some V.cls ∧ V.slots.size = len ∧ (∀ j, j < len → V.slots[j]? = some (.int (lo8 (cv A (o + j))))) ∧ (∀ (y : Addr) (c : Cell), y ≠ a → s.heap[y]? = some c → u.heap[y]? = some c) ∧ u.heap.size = s.heap.size + 1
theorem Got.mv {a : Addr} {D A : Cell} {fV fC : Field} {o len : Nat} : ∀ r (U U' V V' : State), U'.heap = U.heap → V.vm.Alike V'.vm → V'.heap = V.heap → Got a D fV fC A o len r U V → Got a D fV fC A o len r U' V' :=
  fun r U U' V V' h1 hal h2 ⟨e0, D', X, a1, a2, a3, a4, a5, a6, a7, a8, a9, a10, a11⟩ => ⟨e0, D', X, a1.mv hal h2, a2, by rw [h1]; exact a3, a4, by rw [h1]; exact a5.mv hal h2, a6, by rw [hal.findClass]; exact a7, a8, a9, by rw [h1, h2]; exact a10, by rw [h1, h2]; exact a11⟩
namespace New4
def yN : MethodName := ⟨"java/lang/String", "<init>", "([CIILjava/lang/Void;)V"⟩
abbrev yB : ByteArray := jdk_42_method_149_code
theorem d0 : decode yB 0 = .ok (.aload_n 0, 1) := by decide +kernel
theorem d1 : decode yB 1 = .ok (.invokespecial 1, 3) := by decide +kernel
theorem d4 : decode yB 4 = .ok (.iload_n 3, 1) := by decide +kernel
theorem d5 : decode yB 5 = .ok (.ifCond (.ne) 22, 3) := by decide +kernel
theorem d27 : decode yB 27 = .ok (.getstatic 38, 3) := by decide +kernel
theorem d30 : decode yB 30 = .ok (.ifCond (.eq) 28, 3) := by decide +kernel
theorem d33 : decode yB 33 = .ok (.aload_n 1, 1) := by decide +kernel
theorem d34 : decode yB 34 = .ok (.iload_n 2, 1) := by decide +kernel
theorem d35 : decode yB 35 = .ok (.iload_n 3, 1) := by decide +kernel
theorem d36 : decode yB 36 = .ok (.invokestatic 177, 3) := by decide +kernel
theorem d39 : decode yB 39 = .ok (.astore 5, 2) := by decide +kernel
theorem d41 : decode yB 41 = .ok (.aload_n 0, 1) := by decide +kernel
theorem d42 : decode yB 42 = .ok (.aload 5, 2) := by decide +kernel
theorem d44 : decode yB 44 = .ok (.iload_n 3, 1) := by decide +kernel
theorem d45 : decode yB 45 = .ok (.invokestatic 47, 3) := by decide +kernel
theorem d48 : decode yB 48 = .ok (.putfield 15, 3) := by decide +kernel
theorem d51 : decode yB 51 = .ok (.aload_n 0, 1) := by decide +kernel
theorem d52 : decode yB 52 = .ok (.aload 5, 2) := by decide +kernel
theorem d54 : decode yB 54 = .ok (.putfield 9, 3) := by decide +kernel
theorem d57 : decode yB 57 = .ok (.return_, 1) := by decide +kernel
def site : List Cond := [.fieldLink "java/lang/String" 38 "java/lang/String" "COMPACT_STRINGS" "Z", Cmp3.tab, CodL.tab, .laysFinal "java/lang/String" "java/lang/String" "value" "[B", .fieldLink "java/lang/String" 9 "java/lang/String" "value" "[B", .laysFinal "java/lang/String" "java/lang/String" "coder" "B", .fieldLink "java/lang/String" 15 "java/lang/String" "coder" "B"] ++ objW "java/lang/String" 1 ++ staticW "java/lang/String" 177 Cmp3.yN ++ staticW "java/lang/String" 47 CodL.yN
def tab : Cond := tabOf yN yB 6 none site
def P (a : Addr) (D : Cell) (fV fC : Field) (b : Addr) (A : Cell) (z : Int32) (o len : Nat) (args : Array Value) (s : State) : Prop := args = #[.ref a, .ref b, .int (Int32.ofNat o), .int (Int32.ofNat len), .null] ∧ Blank "java/lang/String" a D s ∧ Found "java/lang/String" "value" "[B" fV s ∧ Found "java/lang/String" "coder" "B" fC s ∧ Ch b A s ∧ StaticIs s "java/lang/String" "COMPACT_STRINGS" "Z" (.int z) ∧ ¬ z = 0 ∧ 0 < len ∧ o + len ≤ A.slots.size ∧ len ≤ 536870912 ∧ ∀ i, i < len → ¬ 255 < cv A (o + i)
def E (a : Addr) (D : Cell) (fV fC : Field) (A : Cell) (o len : Nat) (r : Option Value) (s u : State) : Prop := Got a D fV fC A o len r s u
/-- len > 0, no char of the range above 255: a Latin-1 String of their low bytes -/
theorem law (l : Launch) (a : Addr) (D : Cell) (fV fC : Field) (b : Addr) (A : Cell) (z : Int32) (o len : Nat) : Law l yN 5 4 2 35 yB 6 none site (P a D fV fC b A z o len) (E a D fV fC A o len) [⟨a, fC.slot⟩, ⟨a, fV.slot⟩] 1 len := by
  refine Law.of_walk (plainFor_of_name (by decide +kernel)) (by decide +kernel) (by decide +kernel) (by decide) (fun _ _ h => by rw [h.1]; rfl) (fun _ U U' hal hh h => ⟨h.1, h.2.1.mv hal hh, h.2.2.1.al hal, h.2.2.2.1.al hal, h.2.2.2.2.1.mv hal hh, h.2.2.2.2.2.1.there hal hh, h.2.2.2.2.2.2⟩) (fun r U U' V V' h1 hal h2 h => Got.mv r U U' V V' h1 hal h2 h) ?_
  intro p e s m args below meth c s₁ X0 hexec hbytes hml hret hlk hnm hown hh0 W hP
  obtain ⟨rfl, hB, f1, f2, hA, s1, hz, l0, l1, l2, hp⟩ := hP
  have a31 := hA.1.2.2.2
  have c1 : Steps p.tables e below (s₁.setTop (entryFrame m #[.ref a, .ref b, .int (Int32.ofNat o), .int (Int32.ofNat len), .null] 6)) (s₁.setTop (mkF m 0 #[.val (.ref a), .val (.ref b), .val (.int (Int32.ofNat o)), .val (.int (Int32.ofNat len)), .val .null, .unset] [])) := entry rfl
  have c2 : Steps p.tables e below (s₁.setTop (entryFrame m #[.ref a, .ref b, .int (Int32.ofNat o), .int (Int32.ofNat len), .null] 6)) (s₁.setTop (mkF m 1 #[.val (.ref a), .val (.ref b), .val (.int (Int32.ofNat o)), .val (.int (Int32.ofNat len)), .val .null, .unset] [.ref a])) := c1.trans (by
    refine XS.aloadN X0.here hexec rfl (hb hbytes d0) rfl rfl ?_
    exact Steps.refl _)
  obtain ⟨T3, X3, q3, st3⟩ := X0.oinit hexec hown (wks W (objW "java/lang/String" 1)) (g := (mkF m 1 #[.val (.ref a), .val (.ref b), .val (.int (Int32.ofNat o)), .val (.int (Int32.ofNat len)), .val .null, .unset] [.ref a])) rfl (by rw [hml]; rfl) (rest := []) rfl (hb hbytes d1) (W := 0) (by show 2 * 0 + 0 ≤ _; decide) (Nat.le_of_ble_eq_true rfl) (Nat.le_of_ble_eq_true rfl)
  have hh3 := q3.trans hh0
  have c4 : Steps p.tables e below (s₁.setTop (entryFrame m #[.ref a, .ref b, .int (Int32.ofNat o), .int (Int32.ofNat len), .null] 6)) (T3.setTop (mkF m 27 #[.val (.ref a), .val (.ref b), .val (.int (Int32.ofNat o)), .val (.int (Int32.ofNat len)), .val .null, .unset] [])) := (c2.trans (st3 _ (Steps.refl _))).trans (by
    refine XS.iloadN X3.here hexec rfl (hb hbytes d4) rfl ?_
    refine XS.ifYes X3.here hexec rfl (pc0 := 5) rfl (hb hbytes d5) rfl (i0_ne_t (nz32 (by omega) l0)) (by decide) rfl ?_
    exact Steps.refl _)
  obtain ⟨T5, X5, q5, st5⟩ := X3.sget hexec hown (wk W (.fieldLink "java/lang/String" 38 "java/lang/String" "COMPACT_STRINGS" "Z")) s1 (fun _ _ h => by rw [hh3]; exact h) (g := (mkF m 27 #[.val (.ref a), .val (.ref b), .val (.int (Int32.ofNat o)), .val (.int (Int32.ofNat len)), .val .null, .unset] [])) rfl (hb hbytes d27)
  have hh5 := q5.trans hh3
  have c6 : Steps p.tables e below (s₁.setTop (entryFrame m #[.ref a, .ref b, .int (Int32.ofNat o), .int (Int32.ofNat len), .null] 6)) (T5.setTop (mkF m 30 #[.val (.ref a), .val (.ref b), .val (.int (Int32.ofNat o)), .val (.int (Int32.ofNat len)), .val .null, .unset] [.int z])) := c4.trans (st5 _ (Steps.refl _))
  have c7 : Steps p.tables e below (s₁.setTop (entryFrame m #[.ref a, .ref b, .int (Int32.ofNat o), .int (Int32.ofNat len), .null] 6)) (T5.setTop (mkF m 36 #[.val (.ref a), .val (.ref b), .val (.int (Int32.ofNat o)), .val (.int (Int32.ofNat len)), .val .null, .unset] [.int (Int32.ofNat len), .int (Int32.ofNat o), .ref b])) := c6.trans (by
    refine XS.ifNo X5.here hexec rfl (hb hbytes d30) rfl (i0_eq_f hz) ?_
    refine XS.aloadN X5.here hexec rfl (hb hbytes d33) rfl rfl ?_
    refine XS.iloadN X5.here hexec rfl (hb hbytes d34) rfl ?_
    refine XS.iloadN X5.here hexec rfl (hb hbytes d35) rfl ?_
    exact Steps.refl _)
  obtain ⟨v8, T8, X8, E8, g8⟩ := X5.callS hexec (Cmp3.law l b A o len) hown (wks W (staticW "java/lang/String" 177 Cmp3.yN)) (wk W Cmp3.tab) (W := 0) (Nat.le_of_ble_eq_true rfl) (Nat.le_of_ble_eq_true rfl) (Nat.le_refl _) (by show 0 + len ≤ len; omega) (g := (mkF m 36 #[.val (.ref a), .val (.ref b), .val (.int (Int32.ofNat o)), .val (.int (Int32.ofNat len)), .val .null, .unset] [.int (Int32.ofNat len), .int (Int32.ofNat o), .ref b])) rfl (by rw [hml]; rfl) c7 (argsL := [.ref b, .int (Int32.ofNat o), .int (Int32.ofNat len)]) (rest := []) rfl rfl (by show 2 * 0 + 0 ≤ _; decide) (hb hbytes d36) (⟨rfl, hA.mv X5.warmed.alike hh5, l1, l2, hp⟩)
  obtain ⟨e8, z8⟩ := E8
  obtain ⟨rfl, N, n1, n2, n3, n4, n5, n6⟩ := NewArr.mv _ T5 s _ _ hh5.symm (Vm.Alike.refl _) rfl e8
  rw [hh5] at z8
  have hB1 := hB.keep X8.warmed.alike (n6 _ _ hB.1)
  have hne : s.heap.size ≠ a := (Nat.ne_of_lt (Array.getElem?_eq_some_iff.mp hB.1).1).symm
  have c9 : Steps p.tables e below (s₁.setTop (entryFrame m #[.ref a, .ref b, .int (Int32.ofNat o), .int (Int32.ofNat len), .null] 6)) (T8.setTop (mkF m 39 #[.val (.ref a), .val (.ref b), .val (.int (Int32.ofNat o)), .val (.int (Int32.ofNat len)), .val .null, .unset] [.ref s.heap.size])) := g8
  have c10 : Steps p.tables e below (s₁.setTop (entryFrame m #[.ref a, .ref b, .int (Int32.ofNat o), .int (Int32.ofNat len), .null] 6)) (T8.setTop (mkF m 45 #[.val (.ref a), .val (.ref b), .val (.int (Int32.ofNat o)), .val (.int (Int32.ofNat len)), .val .null, .val (.ref s.heap.size)] [.int (Int32.ofNat N.slots.size), .ref s.heap.size, .ref a])) := by
    have hc : Steps p.tables e below (s₁.setTop (entryFrame m #[.ref a, .ref b, .int (Int32.ofNat o), .int (Int32.ofNat len), .null] 6)) (T8.setTop (mkF m 45 #[.val (.ref a), .val (.ref b), .val (.int (Int32.ofNat o)), .val (.int (Int32.ofNat len)), .val .null, .val (.ref s.heap.size)] [.int (Int32.ofNat len), .ref s.heap.size, .ref a])) := c9.trans (by
      refine XS.astore X8.here hexec rfl (hb hbytes d39) rfl rfl rfl ?_
      refine XS.aloadN X8.here hexec rfl (hb hbytes d41) rfl rfl ?_
      refine XS.aload X8.here hexec rfl (hb hbytes d42) rfl rfl ?_
      refine XS.iloadN X8.here hexec rfl (hb hbytes d44) rfl ?_
      exact Steps.refl _)
    rw [n4]; exact hc
  obtain ⟨v11, T11, X11, E11, g11⟩ := X8.callS hexec (CodL.law l s.heap.size N) hown (wks W (staticW "java/lang/String" 47 CodL.yN)) (wk W CodL.tab) (W := 1) (Nat.le_of_ble_eq_true rfl) (Nat.le_of_ble_eq_true rfl) (Nat.le_refl _) (by show 0 + len + 0 ≤ len; omega) (g := (mkF m 45 #[.val (.ref a), .val (.ref b), .val (.int (Int32.ofNat o)), .val (.int (Int32.ofNat len)), .val .null, .val (.ref s.heap.size)] [.int (Int32.ofNat N.slots.size), .ref s.heap.size, .ref a])) rfl (by rw [hml]; rfl) c10 (argsL := [.ref s.heap.size, .int (Int32.ofNat N.slots.size)]) (rest := [.ref a]) rfl rfl (by show 2 * 0 + (1 + 0) ≤ _; decide) (hb hbytes d45) (⟨rfl, n1⟩)
  obtain ⟨rfl, q11⟩ := E11
  have hB11 := hB1.mv (X8.warmed.alike.symm.trans X11.warmed.alike) q11
  have c12 : Steps p.tables e below (s₁.setTop (entryFrame m #[.ref a, .ref b, .int (Int32.ofNat o), .int (Int32.ofNat len), .null] 6)) (T11.setTop (mkF m 48 #[.val (.ref a), .val (.ref b), .val (.int (Int32.ofNat o)), .val (.int (Int32.ofNat len)), .val .null, .val (.ref s.heap.size)] [.int 0, .ref a])) := g11
  obtain ⟨T13, X13, p13, bl13, sl13, st13⟩ := X11.finit hexec hown (wk W (.fieldLink "java/lang/String" 15 "java/lang/String" "coder" "B")) (Or.inr ⟨_, (wk W (.laysFinal "java/lang/String" "java/lang/String" "coder" "B"))⟩) (Or.inl ⟨rfl, hnm⟩) f2 (Or.inl rfl) hB11 (t := .byte) (by decide +kernel) rfl (g := (mkF m 48 #[.val (.ref a), .val (.ref b), .val (.int (Int32.ofNat o)), .val (.int (Int32.ofNat len)), .val .null, .val (.ref s.heap.size)] [.int 0, .ref a])) rfl (rest := []) rfl (hb hbytes d48)
  have c14 : Steps p.tables e below (s₁.setTop (entryFrame m #[.ref a, .ref b, .int (Int32.ofNat o), .int (Int32.ofNat len), .null] 6)) (T13.setTop (mkF m 54 #[.val (.ref a), .val (.ref b), .val (.int (Int32.ofNat o)), .val (.int (Int32.ofNat len)), .val .null, .val (.ref s.heap.size)] [.ref s.heap.size, .ref a])) := (c12.trans (st13 _ (Steps.refl _))).trans (by
    refine XS.aloadN X13.here hexec rfl (hb hbytes d51) rfl rfl ?_
    refine XS.aload X13.here hexec rfl (hb hbytes d52) rfl rfl ?_
    exact Steps.refl _)
  obtain ⟨T15, X15, p15, bl15, sl15, st15⟩ := X13.finit hexec hown (wk W (.fieldLink "java/lang/String" 9 "java/lang/String" "value" "[B")) (Or.inr ⟨_, (wk W (.laysFinal "java/lang/String" "java/lang/String" "value" "[B"))⟩) (Or.inl ⟨rfl, hnm⟩) f1 (Or.inl rfl) bl13 (t := (.array .byte)) (by decide +kernel) rfl (g := (mkF m 54 #[.val (.ref a), .val (.ref b), .val (.int (Int32.ofNat o)), .val (.int (Int32.ofNat len)), .val .null, .val (.ref s.heap.size)] [.ref s.heap.size, .ref a])) rfl (rest := []) rfl (hb hbytes d54)
  have c16 : Steps p.tables e below (s₁.setTop (entryFrame m #[.ref a, .ref b, .int (Int32.ofNat o), .int (Int32.ofNat len), .null] 6)) (T15.setTop (mkF m 57 #[.val (.ref a), .val (.ref b), .val (.int (Int32.ofNat o)), .val (.int (Int32.ofNat len)), .val .null, .val (.ref s.heap.size)] [])) := c14.trans (st15 _ (Steps.refl _))
  have ap := apart (Or.inr ⟨_, (wk W (.laysFinal "java/lang/String" "java/lang/String" "value" "[B"))⟩) (Or.inr ⟨_, (wk W (.laysFinal "java/lang/String" "java/lang/String" "coder" "B"))⟩) f1 f2 (t₁ := .array .byte) (t₂ := .byte) (by decide +kernel) (by decide +kernel) (by decide)
  have al := X8.warmed.alike.symm.trans X15.warmed.alike
  have n7 : T11.heap[s.heap.size]? = some N := by rw [q11]; exact n1.1
  exact ⟨T15, none, _, _, _, X15, by simp, rfl, by omega, (fun _ => rfl), ⟨rfl, _, N, bl15, ((Same.refl D _).set _ (by simp)).set _ (by simp), sl15, (Cell.slots_setSlot_ne _ ap).trans sl13, n1.keep al (p15.other hne (p13.other hne n7)), n2, by rw [al.findClass]; exact n3, n4, n5, fun y c h1 h2 => p15.other h1 (p13.other h1 (by rw [q11]; exact n6 y c h2)), by rw [p15.2.2, p13.2.2, q11]; exact z8⟩, fun fs hl => c16.trans (X15.returnOut hexec hret (hb hbytes d57) hl)⟩
end New4
namespace New1
def yN : MethodName := ⟨"java/lang/String", "<init>", "([C)V"⟩
abbrev yB : ByteArray := jdk_42_method_3_code
theorem d0 : decode yB 0 = .ok (.aload_n 0, 1) := by decide +kernel
theorem d1 : decode yB 1 = .ok (.aload_n 1, 1) := by decide +kernel
theorem d2 : decode yB 2 = .ok (.iconst 0, 1) := by decide +kernel
theorem d3 : decode yB 3 = .ok (.aload_n 1, 1) := by decide +kernel
theorem d4 : decode yB 4 = .ok (.arraylength, 1) := by decide +kernel
theorem d5 : decode yB 5 = .ok (.aconst_null, 1) := by decide +kernel
theorem d6 : decode yB 6 = .ok (.invokespecial 27, 3) := by decide +kernel
theorem d9 : decode yB 9 = .ok (.return_, 1) := by decide +kernel
def site : List Cond := [New4.tab] ++ initW "java/lang/String" 27 New4.yN
def tab : Cond := tabOf yN yB 2 none site
def P (a : Addr) (D : Cell) (fV fC : Field) (b : Addr) (A : Cell) (z : Int32) (args : Array Value) (s : State) : Prop := args = #[.ref a, .ref b] ∧ Blank "java/lang/String" a D s ∧ Found "java/lang/String" "value" "[B" fV s ∧ Found "java/lang/String" "coder" "B" fC s ∧ Ch b A s ∧ StaticIs s "java/lang/String" "COMPACT_STRINGS" "Z" (.int z) ∧ ¬ z = 0 ∧ 0 < A.slots.size ∧ A.slots.size ≤ 536870912 ∧ ∀ i, i < A.slots.size → ¬ 255 < cv A i
def E (a : Addr) (D : Cell) (fV fC : Field) (A : Cell) (r : Option Value) (s u : State) : Prop := Got a D fV fC A 0 A.slots.size r s u
/-- new String(chars), not empty, no char above 255: a Latin-1 String of their low bytes -/
theorem law (l : Launch) (a : Addr) (D : Cell) (fV fC : Field) (b : Addr) (A : Cell) (z : Int32) : Law l yN 2 1 3 52 yB 2 none site (P a D fV fC b A z) (E a D fV fC A) [⟨a, fC.slot⟩, ⟨a, fV.slot⟩] 1 A.slots.size := by
  refine Law.of_walk (plainFor_of_name (by decide +kernel)) (by decide +kernel) (by decide +kernel) (by decide) (fun _ _ h => by rw [h.1]; rfl) (fun _ U U' hal hh h => ⟨h.1, h.2.1.mv hal hh, h.2.2.1.al hal, h.2.2.2.1.al hal, h.2.2.2.2.1.mv hal hh, h.2.2.2.2.2.1.there hal hh, h.2.2.2.2.2.2⟩) (fun r U U' V V' h1 hal h2 h => Got.mv r U U' V V' h1 hal h2 h) ?_
  intro p e s m args below meth c s₁ X0 hexec hbytes hml hret hlk hnm hown hh0 W hP
  obtain ⟨rfl, hB, f1, f2, hA, s1, hz, l0, l2, hp⟩ := hP
  have c1 : Steps p.tables e below (s₁.setTop (entryFrame m #[.ref a, .ref b] 2)) (s₁.setTop (mkF m 0 #[.val (.ref a), .val (.ref b)] [])) := entry rfl
  have c2 : Steps p.tables e below (s₁.setTop (entryFrame m #[.ref a, .ref b] 2)) (s₁.setTop (mkF m 6 #[.val (.ref a), .val (.ref b)] [.null, .int (Int32.ofNat A.slots.size), .int 0, .ref b, .ref a])) := c1.trans (by
    refine XS.aloadN X0.here hexec rfl (hb hbytes d0) rfl rfl ?_
    refine XS.aloadN X0.here hexec rfl (hb hbytes d1) rfl rfl ?_
    refine iconstV X0.here hexec rfl 0 (hb hbytes d2) (by decide) ?_
    refine XS.aloadN X0.here hexec rfl (hb hbytes d3) rfl rfl ?_
    refine X0.alen hexec (hA.1.mv X0.warmed.alike hh0) rfl rfl (hb hbytes d4) ?_
    refine XS.aconstNull X0.here hexec rfl (hb hbytes d5) ?_
    exact Steps.refl _)
  obtain ⟨v3, T3, X3, E3, g3⟩ := X0.callN hexec (New4.law l a D fV fC b A z 0 A.slots.size) rfl hown (wks W (initW "java/lang/String" 27 New4.yN)) (W New4.tab (by simp only [site, List.mem_cons, List.mem_append, true_or, or_true])) (W := 0) (Nat.le_of_ble_eq_true rfl) (Nat.le_of_ble_eq_true rfl) (Nat.le_refl _) (by show 0 + A.slots.size ≤ A.slots.size; omega) (g := (mkF m 6 #[.val (.ref a), .val (.ref b)] [.null, .int (Int32.ofNat A.slots.size), .int (Int32.ofNat 0), .ref b, .ref a])) rfl (by rw [hml]; rfl) c2 (argsL := [.ref b, .int (Int32.ofNat 0), .int (Int32.ofNat A.slots.size), .null]) (rest := []) rfl rfl (by show 2 * 0 + 0 ≤ _; decide) (hb hbytes d6) (⟨rfl, hB.mv X0.warmed.alike hh0, f1.al X0.warmed.alike, f2.al X0.warmed.alike, hA.mv X0.warmed.alike hh0, s1.there X0.warmed.alike hh0, hz, l0, by omega, l2, fun i hi => by rw [Nat.zero_add]; exact hp i hi⟩)
  have e0 := Got.mv _ s₁ s _ _ hh0.symm (Vm.Alike.refl _) rfl E3
  obtain rfl := e0.1
  have c4 : Steps p.tables e below (s₁.setTop (entryFrame m #[.ref a, .ref b] 2)) (T3.setTop (mkF m 9 #[.val (.ref a), .val (.ref b)] [])) := g3
  exact ⟨T3, none, _, _, _, X3, by simp, rfl, by omega, (fun _ => rfl), e0, fun fs hl => c4.trans (X3.returnOut hexec hret (hb hbytes d9) hl)⟩
theorem pays {l : Launch} {R : Room} {p : Program} {e : Env} {below : List Frame} {s : State} {sargs : Array Value} {len W : Nat} (a : Addr) (D : Cell) (fV fC : Field) (b : Addr) (A : Cell) (z : Int32) (htab : tab.before sargs s = true) (hfr : 4 ≤ R.frames) (hlo : W + 65 ≤ R.locals) :
    Back l R p e below s sargs yN len W (fun A₁ a₁ => A₁.cells + 1 ≤ R.cells ∧ A₁.slots + A.slots.size ≤ R.slots ∧ P a D fV fC b A z a₁ A₁.U) (fun A₁ _ v₁ B₁ => E a D fV fC A v₁ A₁.U B₁.U ∧ B₁.locs = A₁.locs ++ [⟨a, fC.slot⟩, ⟨a, fV.slot⟩] ∧ B₁.cells = A₁.cells + 1 ∧ B₁.slots = A₁.slots + A.slots.size) :=
  (law l a D fV fC b A z).pays htab hfr (by omega)
end New1
/-- the byte, read back as charAt reads it, is the char -/
theorem lo8_mask {x : Int32} (h0 : ¬ x < 0) (h1 : ¬ 255 < x) : lo8 x &&& 255 = x := by
  have t : ∀ k : Fin 256, lo8 (Int32.ofNat k.val) &&& 255 = Int32.ofNat k.val := by decide +kernel
  rw [Int32.lt_iff_toInt_lt] at h0 h1
  have e0 : (0 : Int32).toInt = 0 := rfl
  have e1 : (255 : Int32).toInt = 255 := rfl
  obtain ⟨k, hk⟩ : ∃ k : Nat, x.toInt = k := ⟨x.toInt.toNat, by omega⟩
  have hx : x = Int32.ofNat k := Int32.toInt_inj.mp (by rw [hk, Int32.toInt_ofNat_small (by omega)])
  rw [hx]
  exact t ⟨k, by omega⟩
end StrChars
namespace StrChars.Road
open Jvm Sem ClassFile Op Lib Jvm.Stand Jvm.Free Jvm.Free.XT
open Jvm.Lib.Cold (StaticIs)
abbrev ST : String := "java/lang/String"
/-- every table word that New1's law asks, flat -/
abbrev words : List Jvm.Cond := [.code New1.yN New1.yB 2 none, .initialized ST, .methodLink ST 27 New4.yN, .instanceMethod New4.yN,
  .code New4.yN New4.yB 6 none, .fieldLink ST 38 ST "COMPACT_STRINGS" "Z", .laysFinal ST ST "value" "[B", .fieldLink ST 9 ST "value" "[B", .laysFinal ST ST "coder" "B", .fieldLink ST 15 ST "coder" "B",
  .methodLink ST 1 Lib.objectInit, .instanceMethod Lib.objectInit, .code Lib.objectInit ⟨#[0xb1]⟩ 1 none, .methodLink ST 177 Cmp3.yN, .static Cmp3.yN, .methodLink ST 47 CodL.yN, .static CodL.yN,
  .code Cmp3.yN Cmp3.yB 6 (some (.array .byte)), .initialized U16, .arrayClass .byte, .methodLink U16 115 Cmp5.yN, .static Cmp5.yN, .code Cmp5.yN Cmp5.yB 7 (some .int), .code CodL.yN CodL.yB 2 (some .byte)]
theorem tab_of {a : Array Value} {s : State} (h : ∀ w ∈ words, w.before a s = true) : New1.tab.before a s = true := by
  have h5 : Cmp5.tab.before a s = true := unparts (wk h (.code Cmp5.yN Cmp5.yB 7 (some .int))) (wks h (.initialized Cmp5.yN.cls :: Cmp5.site))
  have hc : CodL.tab.before a s = true := unparts (wk h (.code CodL.yN CodL.yB 2 (some .byte))) (wks h (.initialized CodL.yN.cls :: CodL.site))
  have q5 : ∀ w ∈ Cmp5.tab :: words, w.before a s = true := fun w hw => (List.mem_cons.mp hw).elim (fun e => e ▸ h5) (h w)
  have h3 : Cmp3.tab.before a s = true := unparts (wk q5 (.code Cmp3.yN Cmp3.yB 6 (some (.array .byte)))) (wks q5 (.initialized Cmp3.yN.cls :: Cmp3.site))
  have q3 : ∀ w ∈ Cmp3.tab :: CodL.tab :: words, w.before a s = true := fun w hw => (List.mem_cons.mp hw).elim (fun e => e ▸ h3) fun hw => (List.mem_cons.mp hw).elim (fun e => e ▸ hc) (h w)
  have h4 : New4.tab.before a s = true := unparts (wk q3 (.code New4.yN New4.yB 6 none)) (wks q3 (.initialized New4.yN.cls :: New4.site))
  have q4 : ∀ w ∈ New4.tab :: words, w.before a s = true := fun w hw => (List.mem_cons.mp hw).elim (fun e => e ▸ h4) (h w)
  exact unparts (wk q4 (.code New1.yN New1.yB 2 none)) (wks q4 (.initialized New1.yN.cls :: New1.site))
/-- the words ride from the start Z to the walk's own state -/
theorem moved {Z s : State} {a0 args : Array Value} (hZ : Z.Warmed39 s.vm) (hw : ∀ d ∈ words, d.before a0 Z = true) : ∀ d ∈ words, d.before args s = true := fun d hd => by
  have q := hw d hd
  have t : ∀ d ∈ words, d = .arrayClass .byte ∨ (d.onTables && d.keepsFace) = true := by decide +kernel
  rcases t d hd with rfl | t
  · exact RoadKit.mvA hZ q
  · exact RoadKit.mv hZ q t
/-- WHAT COMES BACK, over the tables of the start Z: h the heap at the call, h' behind it -/
def Q (Z : State) (x : Addr) (A : Cell) (h : Heap) (v : Option Value) (h' : Heap) (L : List Loc) : Prop := v = none ∧ (∀ y ∈ L, y.base = x) ∧ RoadKit.Keep h h' [x] ∧ h'.size = h.size + 1 ∧ RoadKit.Exa Z h' x ST ∧ RoadKit.Fld Z h' x ST "value" "[B" (.ref h.size) ∧ RoadKit.Fld Z h' x ST "coder" "B" (.int 0) ∧
  (∃ V : Cell, RoadKit.Arr Z h' h.size V .byte ∧ V.vm = .none ∧ Z.vm.findClass "[B" = some V.cls ∧ V.slots.size = A.slots.size ∧ ∀ j, j < A.slots.size → V.slots[j]? = some (.int (lo8 (cv A j)))) ∧
  ∀ (O n d : String) (w : Value), RoadKit.Fld Z h x O n d w → RoadKit.slotOf Z O n d ≠ RoadKit.slotOf Z ST "value" "[B" → RoadKit.slotOf Z O n d ≠ RoadKit.slotOf Z ST "coder" "B" → RoadKit.Fld Z h' x O n d w
/-- **new String(chars) AT A CALL, IN THE ROAD'S FORM**: for specialBack behind newO: x the fresh String, b the char[] with the cell A -/
theorem back {p : Program} {l : Launch} {e : Env} {R : Room} {s : State} {args : Array Value} {below : List Frame} {len W : Nat} {Z : State} {a0 : Array Value} {h : Heap} (hZ : Z.Warmed39 s.vm) (hw : ∀ d ∈ words, d.before a0 Z = true) {kI : Nat} (wi : (Jvm.Cond.instantiable ST kI).before a0 Z = true)
    {x b : Addr} {A : Cell} {z : Int32} {v0 c0 : Value} (E : RoadKit.Exa Z h x ST) (V : RoadKit.Fld Z h x ST "value" "[B" v0) (C : RoadKit.Fld Z h x ST "coder" "B" c0) (K : RoadKit.Arr Z h b A .char) (hty : Typed .char A) (S : RoadKit.Sta Z h ST "COMPACT_STRINGS" "Z" (.int z)) (hz : ¬ z = 0)
    (l0 : 0 < A.slots.size) (l2 : A.slots.size ≤ 536870912) (hp : ∀ i, i < A.slots.size → ¬ 255 < cv A i) (hfr : 4 ≤ R.frames) (hlo : W + 65 ≤ R.locals) :
    Back l R p e below s args New1.yN len W (fun P a => a = #[.ref x, .ref b] ∧ P.U.heap = h ∧ P.cells + 1 ≤ R.cells ∧ P.slots + A.slots.size ≤ R.slots)
      (fun P _ v B => ∃ L, Q Z x A h v B.U.heap L ∧ B.locs = P.locs ++ L ∧ B.cells = P.cells + 1 ∧ B.slots = P.slots + A.slots.size) := by
  intro m meth c P g ig mk a X hg hsize hdg hW hn hp'
  obtain ⟨rfl, rfl, r1, r2⟩ := hp'
  have al : Z.vm.Alike P.U.vm := hZ.alike.trans X.warmed.alike
  obtain ⟨D, cfV, kV, iV, fV, hD, gV, stV, knV, obV, asV, slV⟩ := id V
  obtain ⟨D', cfC, kC, iC, fC, hD', gC, stC, -, -, asC, slC⟩ := id C
  cases hD.symm.trans hD'
  obtain ⟨D2, kD, e1, e2, e3, e4, e5⟩ := id E
  cases hD.symm.trans e1
  obtain ⟨c2, k2, i1, i2, i3, -⟩ := Cond.instantiable_spec wi
  cases e2.symm.trans i1
  cases e3.symm.trans i2
  obtain ⟨kU, u1, u2⟩ := al.2.2 _ _ e3
  have hB : Blank ST x D P.U := ⟨hD, ⟨knV, fun q hq => by rw [hq] at obV; cases obV⟩, by rw [al.findClass]; exact e2, kU, u1, by rw [u2]; exact i3, by rw [u2]; exact e5 i3⟩
  have F1 : Found ST "value" "[B" fV P.U := ⟨SBG.found_only al ⟨cfV, kV, iV, gV⟩, stV⟩
  have F2 : Found ST "coder" "B" fC P.U := ⟨SBG.found_only al ⟨cfC, kC, iC, gC⟩, stC⟩
  have hA : Ch b A P.U := ⟨⟨K.1, State.isArrayOf_alike al K.2.1, K.2.2, by omega⟩, hty⟩
  have hS : StaticIs P.U ST "COMPACT_STRINGS" "Z" (.int z) := by
    obtain ⟨cfS, iS, kS, fS, st, cS, t1, t2, t3, t4, t5, t6, t7⟩ := S
    exact StaticIs.there (s := { Z with heap := P.U.heap }) ⟨cfS, iS, kS, fS, st, cS, t1, t2, t3, t4, t5, (fun q => by rw [q] at t6; cases t6), t7⟩ al rfl
  obtain ⟨v, B, X', ⟨⟨hv, E', V', q1, q2, q3, q4, q5, q6, q7, q8, q9, q10, q11⟩, hl, hc, hs⟩, st⟩ := New1.pays x D fV fC b A z (tab_of (moved hZ hw)) hfr hlo m meth c P g ig mk _ X hg hsize hdg hW hn ⟨r1, r2, rfl, hB, F1, F2, hA, hS, hz, l0, l2, hp⟩
  have al' : Z.vm.Alike B.U.vm := hZ.alike.trans X'.warmed.alike
  have hsz : E'.slots.size = D.slots.size := by
    obtain ⟨-, -, -, kB, w1, w2, w3⟩ := q1
    obtain ⟨kB', y1, y2⟩ := al'.2.2 _ _ e3
    rw [q2.2.1] at w1
    cases w1.symm.trans y1
    rw [w3, e5 i3, y2]
  refine ⟨v, B, X', ⟨_, ⟨hv, ?_, ⟨by omega, fun y cy hy hn' => q10 y cy (by simpa using hn') hy, fun y cy hy => ?_⟩, q11, ⟨E', _, q1.1, by rw [q2.2.1]; exact e2, by rw [q2.2.1]; exact e3, by rw [q2.1]; exact obV, fun _ => by rw [hsz]; exact e5 i3⟩,
    ⟨E', cfV, kV, iV, fV, q1.1, gV, stV, by rw [q2.1]; exact knV, by rw [q2.1]; exact obV, by rw [q2.2.1]; exact asV, q3⟩, ⟨E', cfC, kC, iC, fC, q1.1, gC, stC, by rw [q2.1]; exact knV, by rw [q2.1]; exact obV, by rw [q2.2.1]; exact asC, q4⟩,
    ⟨V', ⟨q5.1, State.isArrayOf_alike al'.symm q5.2.1, q5.2.2.1⟩, q6, by rw [← al'.findClass]; exact q7, q8, fun j hj => by have := q9 j hj; rwa [Nat.zero_add] at this⟩, fun O n d w F n1 n2 => ?_⟩, hl, hc, hs⟩, st⟩
  · intro y hy
    simp only [List.mem_cons, List.not_mem_nil, or_false] at hy
    rcases hy with rfl | rfl <;> rfl
  · by_cases q : y = x
    · subst q
      cases hD.symm.trans hy
      exact ⟨E', q1.1, q2.2.1, q2.1, hsz⟩
    · exact ⟨cy, q10 y cy q hy, rfl, rfl, rfl⟩
  · obtain ⟨D3, cf, k, i, f, g1, g2, g3, g4, g5, g6, g7⟩ := F
    cases hD.symm.trans g1
    simp only [RoadKit.slotOf, g2, gV, gC, Option.map_some, Option.getD_some] at n1 n2
    exact ⟨E', cf, k, i, f, q1.1, g2, g3, by rw [q2.1]; exact g4, by rw [q2.1]; exact g5, by rw [q2.2.1]; exact g6, by rw [q2.2.2 f.slot (by simp [n1, n2])]; exact g7⟩
end StrChars.Road
namespace StrChars.Road
open Jvm Sem ClassFile Op Lib Jvm.Stand Jvm.Free Jvm.Free.XT
/-- WHAT COMES BACK, the byte[] as a list of values -/
def QA (Z : State) (x : Addr) (zn : Int32) (cs : List Int32) (h : Heap) (v : Option Value) (h' : Heap) (L : List Loc) : Prop := v = none ∧ (∀ y ∈ L, y.base = x) ∧ RoadKit.Keep h h' [x] ∧ h'.size = h.size + 1 ∧ RoadKit.Exa Z h' x ST ∧ RoadKit.Fld Z h' x ST "value" "[B" (.ref h.size) ∧ RoadKit.Fld Z h' x ST "coder" "B" (.int 0) ∧
  (∃ kb, Z.vm.findClass "[B" = some kb ∧ RoadKit.Arv Z h' h.size kb .byte zn (cs.map fun c => .int (lo8 c)) (.int 0)) ∧
  ∀ (O n d : String) (w : Value), RoadKit.Fld Z h x O n d w → RoadKit.slotOf Z O n d ≠ RoadKit.slotOf Z ST "value" "[B" → RoadKit.slotOf Z O n d ≠ RoadKit.slotOf Z ST "coder" "B" → RoadKit.Fld Z h' x O n d w
/-- **new String(chars) AT A CALL, THE ARRAYS AS LISTS**: the char[] at b holds cs, not empty, no char above 255 -/
theorem backArv {p : Program} {l : Launch} {e : Env} {R : Room} {s : State} {args : Array Value} {below : List Frame} {len W : Nat} {Z : State} {a0 : Array Value} {h : Heap} (hZ : Z.Warmed39 s.vm) (hw : ∀ d ∈ words, d.before a0 Z = true) {kI : Nat} (wi : (Jvm.Cond.instantiable ST kI).before a0 Z = true)
    {x b : Addr} {k : ClassId} {zn z : Int32} {cs : List Int32} {dv v0 c0 : Value} (E : RoadKit.Exa Z h x ST) (V : RoadKit.Fld Z h x ST "value" "[B" v0) (C : RoadKit.Fld Z h x ST "coder" "B" c0) (K : RoadKit.Arv Z h b k .char zn (cs.map Value.int) dv) (S : RoadKit.Sta Z h ST "COMPACT_STRINGS" "Z" (.int z)) (hz : ¬ z = 0)
    (hlen : zn.toNatClampNeg = cs.length) (h0 : 0 < cs.length) (hbig : cs.length ≤ 536870912) (hall : ∀ c ∈ cs, ¬ 255 < c) (hfr : 4 ≤ R.frames) (hlo : W + 65 ≤ R.locals) :
    Back l R p e below s args New1.yN len W (fun P a => a = #[.ref x, .ref b] ∧ P.U.heap = h ∧ P.cells + 1 ≤ R.cells ∧ P.slots + cs.length ≤ R.slots)
      (fun P _ v B => ∃ L, QA Z x zn cs h v B.U.heap L ∧ B.locs = P.locs ++ L ∧ B.cells = P.cells + 1 ∧ B.slots = P.slots + cs.length) := by
  obtain ⟨A, K1, K2, K3, K4, K5, K6⟩ := K
  have e : A.slots.size = cs.length := K3.trans hlen
  have hat : ∀ (i : Nat) (hi : i < cs.length), A.slots[i]? = some (.int cs[i]) := fun i hi => by rw [K5 i (by omega)]; simp [List.getD_eq_getElem?_getD, hi]
  have hcv : ∀ (i : Nat) (hi : i < cs.length), cv A i = cs[i] := fun i hi => by unfold cv; rw [hat i hi]
  have hty : Typed .char A := fun i v hv => by
    have hi : i < A.slots.size := (Array.getElem?_eq_some_iff.mp hv).1
    have q := K5 i hi
    rw [hv] at q
    rw [Option.some.inj q]
    exact K6 i hi
  refine Back.mono (back hZ hw wi E V C K1 hty S hz (by omega) (by omega) (fun i hi => by rw [hcv i (by omega)]; exact hall _ (List.getElem_mem _)) hfr hlo) (fun P a hp => ⟨hp.1, hp.2.1, hp.2.2.1, by rw [e]; exact hp.2.2.2⟩) (fun P a v B hp hq => ?_)
  obtain ⟨L, ⟨q1, q2, q3, q4, q5, q6, q7, ⟨V', v1, v2, v3, v4, v5⟩, q9⟩, hl, hc, hs⟩ := hq
  refine ⟨L, ⟨q1, q2, q3, q4, q5, q6, q7, ⟨V'.cls, v3, V', v1, rfl, by rw [v4, e, hlen], K4, fun i hi => ?_, fun i hi => ?_⟩, q9⟩, hl, hc, by rw [hs, e]⟩
  · have hi' : i < cs.length := by omega
    rw [v5 i (by omega), hcv i hi']; simp [List.getD_eq_getElem?_getD, hi']
  · have hi' : i < cs.length := by omega
    simp only [List.getD_eq_getElem?_getD, List.getElem?_map, List.getElem?_eq_getElem hi', Option.map_some, Option.getD_some]
    exact fits_lo8 _
end StrChars.Road
namespace StrChars.Road
open Jvm Sem ClassFile Op Lib Jvm.Stand Jvm.Free Jvm.Free.XT
/-- WHAT COMES BACK, in the writer's own shape -/
def QV (Z : State) (x : Addr) (N : Int32) (bs : List Int32) (h : Heap) (n0 : Nat) (v : Option Value) (h' : Heap) (L : List Loc) : Prop := v = none ∧ RoadKit.Fr n0 L ∧ RoadKit.Keep h h' [x] ∧ RoadKit.Exa Z h' x ST ∧ RoadKit.Fld Z h' x ST "coder" "B" (.int 0) ∧
  ∃ (t : Addr) (kb : ClassId), n0 ≤ t ∧ h.size ≤ t ∧ ¬ t = x ∧ RoadKit.Fld Z h' x ST "value" "[B" (.ref t) ∧ RoadKit.Arv Z h' t kb .byte N (bs.map Value.int) (.int 0)
/-- **new String(chars) AT A CALL, FOR THE WRITER**: a char[] of n known ints, each 0 to 255 -/
theorem backV {p : Program} {l : Launch} {e : Env} {R : Room} {s : State} {args : Array Value} {below : List Frame} {len W : Nat} {Z : State} {a0 : Array Value} {h : Heap} (hZ : Z.Warmed39 s.vm) (hw : ∀ d ∈ words, d.before a0 Z = true) {kI : Nat} (wi : (Jvm.Cond.instantiable ST kI).before a0 Z = true)
    {x b : Addr} {kC : ClassId} {cs bs : List Int32} {d v0 c0 : Value} {z N : Int32} {n n0 : Nat} (hx0 : n0 ≤ x) (hh0 : n0 ≤ h.size) (E : RoadKit.Exa Z h x ST) (V : RoadKit.Fld Z h x ST "value" "[B" v0) (C : RoadKit.Fld Z h x ST "coder" "B" c0) (K : RoadKit.Arv Z h b kC .char N (cs.map Value.int) d) (S : RoadKit.Sta Z h ST "COMPACT_STRINGS" "Z" (.int z)) (hz : ¬ z = 0)
    (hn : cs.length = n) (hN : N = Int32.ofNat n) (l0 : 0 < n) (l2 : n ≤ 4000) (hp : ∀ c ∈ cs, ¬ c < 0 ∧ ¬ (255 : Int32) < c) (hb : bs = cs.map (fun c => c.toInt8.toInt32)) (hfr : 4 ≤ R.frames) (hlo : W + 65 ≤ R.locals) :
    Back l R p e below s args (⟨"java/lang/String", "<init>", "([C)V"⟩ : MethodName) len W (fun P a => a = #[.ref x, .ref b] ∧ P.U.heap = h ∧ P.cells + 1 ≤ R.cells ∧ P.slots + n ≤ R.slots)
      (fun P _ v B => ∃ L, QV Z x N bs h n0 v B.U.heap L ∧ B.locs = P.locs ++ L ∧ B.cells = P.cells + 1 ∧ B.slots = P.slots + n) := by
  subst hn hN hb
  refine Back.mono (backArv hZ hw wi E V C K S hz (n32 (by omega)) l0 (by omega) (fun c hc => (hp c hc).2) hfr hlo) (fun P a hp => hp) (fun P a v B hp hq => ?_)
  obtain ⟨L, ⟨q1, q2, q3, q4, q5, q6, q7, ⟨kb, v1, v2⟩, q9⟩, hl, hc, hs⟩ := hq
  exact ⟨L, ⟨q1, fun y hy => by rw [q2 y hy]; exact hx0, q3, q5, q7, h.size, kb, hh0, Nat.le_refl _, Nat.ne_of_gt E.lt, q6, by rw [List.map_map]; exact v2⟩, hl, hc, hs⟩
end StrChars.Road
namespace StrChars
open Jvm Sem ClassFile Op Lib Jvm.Stand Jvm.Free.XT Jvm.Free.ALB Jvm.Free.JM Jvm.Free
open Jvm.Lib.Cold (StaticIs)
def hi8 (x : Int32) : Int32 := lo8 (x >>> ((8 : Int32) &&& 31))
/-- what StringUTF16.getChar makes of two bytes -/
def pairCh (u v : Int32) : Int32 := (((u &&& 255) <<< ((0 : Int32) &&& 31)) ||| ((v &&& 255) <<< ((8 : Int32) &&& 31))).toUInt32.toUInt16.toUInt32.toInt32
theorem shr0 (c : Int32) : c >>> ((0 : Int32) &&& 31) = c := by
  have e : ((0 : Int32) &&& 31) = 0 := by decide
  rw [e]
  apply Int32.toBitVec_inj.mp
  rw [Int32.toBitVec_shiftRight]
  have e1 : ((0 : Int32).toBitVec.smod 32) = 0#32 := by decide
  rw [e1, BitVec.sshiftRight_eq']
  exact BitVec.sshiftRight_zero
theorem lo8_and (x : Int32) : (lo8 x &&& 255).toBitVec.toNat = x.toBitVec.toNat % 256 := by
  have h : (lo8 x).toBitVec = (x.toBitVec.signExtend 8).signExtend 32 := by rw [lo8, Int8.toBitVec_toInt32, Int32.toBitVec_toInt8]
  rw [Int32.toBitVec_and, BitVec.toNat_and, h]
  have e : ((x.toBitVec.signExtend 8).signExtend 32).toNat % 256 = x.toBitVec.toNat % 256 := by
    rw [BitVec.toNat_signExtend]
    have hlt := x.toBitVec.isLt
    simp only [BitVec.toNat_setWidth, BitVec.toNat_signExtend]
    split <;> split <;> omega
  rw [← e]
  exact Nat.and_two_pow_sub_one_eq_mod _ 8
theorem pair_says {c : Int32} (h0 : ¬ c < 0) (h1 : ¬ 65535 < c) : pairCh (lo8 c) (hi8 c) = c := by
  rw [Int32.lt_iff_toInt_lt] at h0 h1
  have e0 : (0 : Int32).toInt = 0 := rfl
  have e1 : (65535 : Int32).toInt = 65535 := rfl
  have hc : c.toInt = c.toBitVec.toNat := by
    have := c.toBitVec.isLt
    have e : c.toInt = c.toBitVec.toInt := rfl
    rw [e] at h0 h1
    rw [e]
    rw [BitVec.toInt_eq_toNat_cond] at h0 h1 ⊢
    split at h0 <;> split <;> omega
  have hn : c.toBitVec.toNat < 65536 := by omega
  have a1 := lo8_and c
  have a2 : (hi8 c &&& 255).toBitVec.toNat = c.toBitVec.toNat / 256 := by
    rw [hi8, lo8_and]
    have e : ((8 : Int32) &&& 31) = 8 := by decide
    rw [e, Int32.toBitVec_shiftRight]
    have e2 : ((8 : Int32).toBitVec.smod 32) = 8#32 := by decide
    rw [e2, BitVec.sshiftRight_eq', BitVec.toNat_sshiftRight_of_msb_false (by rw [BitVec.msb_eq_false_iff_two_mul_lt]; omega)]
    show c.toBitVec.toNat >>> 8 % 256 = _
    rw [Nat.shiftRight_eq_div_pow]
    omega
  unfold pairCh
  apply Int32.toBitVec_inj.mp
  apply BitVec.eq_of_toNat_eq
  have f0 : ((0 : Int32) &&& 31) = 0 := by decide
  have f8 : ((8 : Int32) &&& 31) = 8 := by decide
  rw [f0, f8]
  have g : (((lo8 c &&& 255) <<< (0 : Int32)) ||| ((hi8 c &&& 255) <<< (8 : Int32))).toBitVec.toNat = c.toBitVec.toNat := by
    rw [Int32.toBitVec_or, Int32.toBitVec_shiftLeft, Int32.toBitVec_shiftLeft]
    have s0 : ((0 : Int32).toBitVec.smod 32) = 0#32 := by decide
    have s8 : ((8 : Int32).toBitVec.smod 32) = 8#32 := by decide
    rw [s0, s8, BitVec.toNat_or]
    simp only [BitVec.shiftLeft_eq', BitVec.toNat_shiftLeft, a1, a2]
    show (c.toBitVec.toNat % 256) <<< 0 % 2 ^ 32 ||| (c.toBitVec.toNat / 256) <<< 8 % 2 ^ 32 = _
    rw [Nat.shiftLeft_zero, Nat.mod_eq_of_lt (show c.toBitVec.toNat % 256 < 2 ^ 32 by omega), Nat.mod_eq_of_lt (show (c.toBitVec.toNat / 256) <<< 8 < 2 ^ 32 by rw [Nat.shiftLeft_eq]; omega), Nat.or_comm, ← Nat.shiftLeft_add_eq_or_of_lt (by omega), Nat.shiftLeft_eq]
    omega
  show BitVec.toNat (((((lo8 c &&& 255) <<< (0 : Int32)) ||| ((hi8 c &&& 255) <<< (8 : Int32))).toBitVec.setWidth 16).setWidth 32) = _
  rw [BitVec.toNat_setWidth, BitVec.toNat_setWidth, g]
  omega
end StrChars
namespace StrChars
open Jvm Sem ClassFile Op Lib Jvm.Stand Jvm.Free.XT Jvm.Free.ALB Jvm.Free.JM Jvm.Free
open Jvm.Lib.Cold (StaticIs)
theorem shr1 {n : Nat} (h : 2 * n < 2 ^ 31) : Int32.ofNat (2 * n) >>> ((1 : Int32) &&& 31) = Int32.ofNat n := by
  have e : ((1 : Int32) &&& 31) = 1 := by decide
  rw [e]
  apply Int32.toBitVec_inj.mp
  rw [Int32.toBitVec_shiftRight]
  have e1 : ((1 : Int32).toBitVec.smod 32) = 1#32 := by decide
  have hm : (BitVec.ofNat 32 (2 * n)).toNat = 2 * n := by rw [BitVec.toNat_ofNat, Nat.mod_eq_of_lt (by omega)]
  rw [e1, BitVec.sshiftRight_eq']
  apply BitVec.eq_of_toNat_eq
  show ((BitVec.ofNat 32 (2 * n)).sshiftRight 1).toNat = (BitVec.ofNat 32 n).toNat
  rw [BitVec.toNat_sshiftRight_of_msb_false (by rw [BitVec.msb_eq_false_iff_two_mul_lt, hm]; omega), hm, BitVec.toNat_ofNat, Nat.shiftRight_eq_div_pow]
  omega
/-- the array's cell V codes the n chars f 0 .. f (n - 1) by the coder cd, as the JDK does: coder 1 just where some char is above 255 -/
def Cod (cd : Int32) (n : Nat) (f : Nat → Int32) (V : Cell) : Prop := (cd = 0 ∧ V.slots.size = n ∧ ∀ j, j < n → V.slots[j]? = some (.int (lo8 (f j))) ∧ ¬ 255 < f j) ∨ (cd = 1 ∧ V.slots.size = 2 * n ∧ (∀ j, j < n → V.slots[2 * j]? = some (.int (lo8 (f j))) ∧ V.slots[2 * j + 1]? = some (.int (hi8 (f j)))) ∧ ∃ j, j < n ∧ 255 < f j)
theorem Cod.cd {cd : Int32} {n : Nat} {f : Nat → Int32} {V : Cell} (h : Cod cd n f V) : cd = 0 ∨ cd = 1 := h.imp (fun q => q.1) fun q => q.1
theorem Cod.len {cd : Int32} {n : Nat} {f : Nat → Int32} {V : Cell} (h : Cod cd n f V) (hs : V.slots.size < 2 ^ 31) : Int32.ofNat V.slots.size >>> (cd &&& 31) = Int32.ofNat n := by
  rcases h with ⟨rfl, h, -⟩ | ⟨rfl, h, -⟩
  · rw [shr0, h]
  · rw [h, shr1 (by omega)]
/-- **x is a String of the n chars f 0 .. f (n - 1)**, Latin-1 or UTF-16; its array at t has the cell V -/
def Txt (x t : Addr) (V : Cell) (cd : Int32) (n : Nat) (f : Nat → Int32) (U : State) : Prop := Exact "java/lang/String" x U ∧ Has x "java/lang/String" "value" "[B" (.ref t) U ∧ Has x "java/lang/String" "coder" "B" (.int cd) U ∧ XT.Arr .byte t V U ∧ Cod cd n f V ∧ ∀ j, j < n → ¬ f j < 0 ∧ ¬ 65535 < f j
theorem Txt.mv {x t : Addr} {V : Cell} {cd : Int32} {n : Nat} {f : Nat → Int32} {U U' : State} (h : Txt x t V cd n f U) (hal : U.vm.Alike U'.vm) (hh : U'.heap = U.heap) : Txt x t V cd n f U' := ⟨h.1.mv hal hh, h.2.1.mv hal hh, h.2.2.1.mv hal hh, h.2.2.2.1.mv hal hh, h.2.2.2.2⟩
namespace Cdr
def yN : MethodName := ⟨"java/lang/String", "coder", "()B"⟩
abbrev yB : ByteArray := jdk_42_method_152_code
theorem d0 : decode yB 0 = .ok (.getstatic 38, 3) := by decide +kernel
theorem d3 : decode yB 3 = .ok (.ifCond (.eq) 10, 3) := by decide +kernel
theorem d6 : decode yB 6 = .ok (.aload_n 0, 1) := by decide +kernel
theorem d7 : decode yB 7 = .ok (.getfield 15, 3) := by decide +kernel
theorem d10 : decode yB 10 = .ok (.goto 4, 3) := by decide +kernel
theorem d14 : decode yB 14 = .ok (.ireturn, 1) := by decide +kernel
def site : List Cond := [.fieldLink "java/lang/String" 38 "java/lang/String" "COMPACT_STRINGS" "Z", .fieldLink "java/lang/String" 15 "java/lang/String" "coder" "B"]
def tab : Cond := tabOf yN yB 1 (some .byte) site
def P (x : Addr) (cd z : Int32) (args : Array Value) (s : State) : Prop := args = #[.ref x] ∧ Has x "java/lang/String" "coder" "B" (.int cd) s ∧ (cd = 0 ∨ cd = 1) ∧ StaticIs s "java/lang/String" "COMPACT_STRINGS" "Z" (.int z) ∧ ¬ z = 0
def E (cd : Int32) (r : Option Value) (s u : State) : Prop := XT.PureE (some (.int cd)) r s u
theorem law (l : Launch) (x : Addr) (cd z : Int32) : Law l yN 1 0 0 0 yB 1 (some .byte) site (P x cd z) (E cd) [] 0 0 := by
  refine Law.of_walk (plainFor_of_name (by decide +kernel)) (by decide +kernel) (by decide +kernel) (by decide) (fun _ _ h => by rw [h.1]; rfl) (fun _ U U' hal hh h => ⟨h.1, h.2.1.mv hal hh, h.2.2.1, h.2.2.2.1.there hal hh, h.2.2.2.2⟩) (fun r U U' V V' h1 hal h2 h => XT.PureE.mv r U U' V V' h1 hal h2 h) ?_
  intro p e s m args below meth c s₁ X0 hexec hbytes hml hret hlk hnm hown hh0 W hP
  obtain ⟨rfl, hx, hc, s1, hz⟩ := hP
  have c1 : Steps p.tables e below (s₁.setTop (entryFrame m #[.ref x] 1)) (s₁.setTop (mkF m 0 #[.val (.ref x)] [])) := entry rfl
  obtain ⟨T2, X2, q2, st2⟩ := X0.sget hexec hown (wk W (.fieldLink "java/lang/String" 38 "java/lang/String" "COMPACT_STRINGS" "Z")) s1 (fun _ _ h => by rw [hh0]; exact h) (g := (mkF m 0 #[.val (.ref x)] [])) rfl (hb hbytes d0)
  have hh2 := q2.trans hh0
  have c3 : Steps p.tables e below (s₁.setTop (entryFrame m #[.ref x] 1)) (T2.setTop (mkF m 7 #[.val (.ref x)] [.ref x])) := (c1.trans (st2 _ (Steps.refl _))).trans (by
    refine XS.ifNo X2.here hexec rfl (hb hbytes d3) rfl (i0_eq_f hz) ?_
    refine XS.aloadN X2.here hexec rfl (hb hbytes d6) rfl rfl ?_
    exact Steps.refl _)
  obtain ⟨T4, X4, q4, st4⟩ := X2.hget hexec hown (wk W (.fieldLink "java/lang/String" 15 "java/lang/String" "coder" "B")) (hx.mv X2.warmed.alike hh2) (g := (mkF m 7 #[.val (.ref x)] [.ref x])) rfl (rest := []) rfl (hb hbytes d7)
  have c5 : Steps p.tables e below (s₁.setTop (entryFrame m #[.ref x] 1)) (T4.setTop (mkF m 14 #[.val (.ref x)] [.int cd])) := (c3.trans (st4 _ (Steps.refl _))).trans (by
    refine XS.goto X4.here hexec rfl (pc0 := 10) rfl (hb hbytes d10) (by decide) rfl ?_
    exact Steps.refl _)
  exact ⟨T4, some (.int cd), _, _, _, X4, rfl, rfl, rfl, (fun h => by cases h), ⟨rfl, q4.trans hh2⟩, fun fs hl => c5.trans (X4.ireturnOut hexec hret (by rcases hc with rfl | rfl <;> rfl) (Or.inr (Or.inr (Or.inl rfl))) (hb hbytes d14) hl)⟩
end Cdr
namespace Len
def yN : MethodName := ⟨"java/lang/String", "length", "()I"⟩
abbrev yB : ByteArray := jdk_42_method_54_code
theorem d0 : decode yB 0 = .ok (.aload_n 0, 1) := by decide +kernel
theorem d1 : decode yB 1 = .ok (.getfield 9, 3) := by decide +kernel
theorem d4 : decode yB 4 = .ok (.arraylength, 1) := by decide +kernel
theorem d5 : decode yB 5 = .ok (.aload_n 0, 1) := by decide +kernel
theorem d6 : decode yB 6 = .ok (.invokevirtual 335, 3) := by decide +kernel
theorem d9 : decode yB 9 = .ok (.ishr, 1) := by decide +kernel
theorem d10 : decode yB 10 = .ok (.ireturn, 1) := by decide +kernel
def site : List Cond := [.fieldLink "java/lang/String" 9 "java/lang/String" "value" "[B", Cdr.tab] ++ virtW "java/lang/String" 335 "java/lang/String" Cdr.yN Cdr.yN
def tab : Cond := tabOf yN yB 1 (some .int) site
def P (x t : Addr) (V : Cell) (cd : Int32) (n : Nat) (f : Nat → Int32) (z : Int32) (args : Array Value) (s : State) : Prop := args = #[.ref x] ∧ Txt x t V cd n f s ∧ StaticIs s "java/lang/String" "COMPACT_STRINGS" "Z" (.int z) ∧ ¬ z = 0
def E (n : Nat) (r : Option Value) (s u : State) : Prop := XT.PureE (some (.int (Int32.ofNat n))) r s u
/-- length() of a String of n chars, in either coding -/
theorem law (l : Launch) (x t : Addr) (V : Cell) (cd : Int32) (n : Nat) (f : Nat → Int32) (z : Int32) : Law l yN 1 0 1 13 yB 1 (some .int) site (P x t V cd n f z) (E n) [] 0 0 := by
  refine Law.of_walk (plainFor_of_name (by decide +kernel)) (by decide +kernel) (by decide +kernel) (by decide) (fun _ _ h => by rw [h.1]; rfl) (fun _ U U' hal hh h => ⟨h.1, h.2.1.mv hal hh, h.2.2.1.there hal hh, h.2.2.2⟩) (fun r U U' V V' h1 hal h2 h => XT.PureE.mv r U U' V V' h1 hal h2 h) ?_
  intro p e s m args below meth c s₁ X0 hexec hbytes hml hret hlk hnm hown hh0 W hP
  obtain ⟨rfl, hx, s1, hz⟩ := hP
  have v31 := hx.2.2.2.1.2.2.2
  have c1 : Steps p.tables e below (s₁.setTop (entryFrame m #[.ref x] 1)) (s₁.setTop (mkF m 1 #[.val (.ref x)] [.ref x])) := Steps.trans (entry rfl) (by
    show Steps p.tables e below (s₁.setTop (mkF m 0 #[.val (.ref x)] [])) _
    refine XS.aloadN X0.here hexec rfl (hb hbytes d0) rfl rfl ?_
    exact Steps.refl _)
  obtain ⟨T2, X2, q2, st2⟩ := X0.hget hexec hown (wk W (.fieldLink "java/lang/String" 9 "java/lang/String" "value" "[B")) (hx.mv X0.warmed.alike hh0).2.1 (g := (mkF m 1 #[.val (.ref x)] [.ref x])) rfl (rest := []) rfl (hb hbytes d1)
  have hh2 := q2.trans hh0
  have hx2 := hx.mv X2.warmed.alike hh2
  have c3 : Steps p.tables e below (s₁.setTop (entryFrame m #[.ref x] 1)) (T2.setTop (mkF m 6 #[.val (.ref x)] [.ref x, .int (Int32.ofNat V.slots.size)])) := (c1.trans (st2 _ (Steps.refl _))).trans (by
    refine X2.alen hexec hx2.2.2.2.1 rfl rfl (hb hbytes d4) ?_
    refine XS.aloadN X2.here hexec rfl (hb hbytes d5) rfl rfl ?_
    exact Steps.refl _)
  obtain ⟨v4, T4, X4, E4, g4⟩ := X2.callV hexec (Cdr.law l x cd z) hown (wks W (virtW "java/lang/String" 335 "java/lang/String" Cdr.yN Cdr.yN)) rfl (by decide) (wk W Cdr.tab) (W := 1) (Nat.le_of_ble_eq_true rfl) (Nat.le_of_ble_eq_true rfl) (Nat.le_refl _) (Nat.le_refl _) (hx2.1.fc X2.warmed.alike) hx2.1.is (g := (mkF m 6 #[.val (.ref x)] [.ref x, .int (Int32.ofNat V.slots.size)])) rfl (by rw [hml]; rfl) c3 (argsL := []) (rest := [.int (Int32.ofNat V.slots.size)]) rfl rfl (by show 2 * 0 + (1 + 0) ≤ _; decide) (hb hbytes d6) (⟨rfl, hx2.2.2.1, hx.2.2.2.2.1.cd, s1.there X2.warmed.alike hh2, hz⟩)
  obtain ⟨rfl, q4⟩ := E4
  have c5 : Steps p.tables e below (s₁.setTop (entryFrame m #[.ref x] 1)) (T4.setTop (mkF m 10 #[.val (.ref x)] [.int (Int32.ofNat V.slots.size >>> (cd &&& 31))])) := Steps.trans g4 (by
    refine ishr X4.here hexec rfl (hb hbytes d9) rfl ?_
    exact Steps.refl _)
  rw [hx.2.2.2.2.1.len v31] at c5
  exact ⟨T4, some (.int (Int32.ofNat n)), _, _, _, X4, rfl, rfl, rfl, (fun h => by cases h), ⟨rfl, q4.trans hh2⟩, fun fs hl => c5.trans (X4.ireturnOut hexec hret rfl (Or.inl rfl) (hb hbytes d10) hl)⟩
theorem pays {l : Launch} {R : Room} {p : Program} {e : Env} {below : List Frame} {s : State} {sargs : Array Value} {len W : Nat} (x t : Addr) (V : Cell) (cd : Int32) (n : Nat) (f : Nat → Int32) (z : Int32) (htab : tab.before sargs s = true) (hfr : 2 ≤ R.frames) (hlo : W + 25 ≤ R.locals) :
    Back l R p e below s sargs yN len W (fun A₁ a₁ => A₁.cells + 0 ≤ R.cells ∧ A₁.slots + 0 ≤ R.slots ∧ P x t V cd n f z a₁ A₁.U) (fun A₁ _ v₁ B₁ => E n v₁ A₁.U B₁.U ∧ B₁.locs = A₁.locs ++ [] ∧ B₁.cells = A₁.cells + 0 ∧ B₁.slots = A₁.slots + 0) :=
  (law l x t V cd n f z).pays htab hfr (by omega)
end Len
end StrChars
namespace StrChars.Road
open Jvm Sem ClassFile Op Lib Jvm.Stand Jvm.Free Jvm.Free.XT
open Jvm.Lib.Cold (StaticIs)
theorem consq {a : Array Value} {s : State} {c : Jvm.Cond} {L : List Jvm.Cond} (h0 : c.before a s = true) (h : ∀ w ∈ L, w.before a s = true) : ∀ w ∈ c :: L, w.before a s = true := fun w hw => (List.mem_cons.mp hw).elim (fun e => e ▸ h0) (h w)
/-- the words of String.length(), either coding -/
abbrev wordsLen : List Jvm.Cond := [.code Len.yN Len.yB 1 (some .int), .initialized ST, .fieldLink ST 9 ST "value" "[B", .fieldLink ST 38 ST "COMPACT_STRINGS" "Z", .fieldLink ST 15 ST "coder" "B", .code Cdr.yN Cdr.yB 1 (some .byte), .methodLink ST 335 Cdr.yN, .declares Cdr.yN, .selects ST Cdr.yN Cdr.yN, .instanceMethod Cdr.yN]
theorem tabLen_of {a : Array Value} {s : State} (h : ∀ w ∈ wordsLen, w.before a s = true) : Len.tab.before a s = true := by
  have hc : Cdr.tab.before a s = true := unparts (wk h (.code Cdr.yN Cdr.yB 1 (some .byte))) (wks h (.initialized Cdr.yN.cls :: Cdr.site))
  have q := consq hc h
  exact unparts (wk q (.code Len.yN Len.yB 1 (some .int))) (wks q (.initialized Len.yN.cls :: Len.site))
theorem movedLen {Z s : State} {a0 args : Array Value} (hZ : Z.Warmed39 s.vm) (hw : ∀ d ∈ wordsLen, d.before a0 Z = true) : ∀ d ∈ wordsLen, d.before args s = true := fun d hd => by
  have q := hw d hd
  have t : ∀ d ∈ wordsLen, d = .arrayClass .byte ∨ (d.onTables && d.keepsFace) = true := by decide +kernel
  rcases t d hd with rfl | t
  · exact RoadKit.mvA hZ q
  · exact RoadKit.mv hZ q t
/-- the bytes of the chars cs, low before high -/
def wideBytes : List Int32 → List Value
  | [] => []
  | c :: cs => .int (lo8 c) :: .int (hi8 c) :: wideBytes cs
theorem wide_lo (d : Value) : ∀ (cs : List Int32) (j : Nat), j < cs.length → (wideBytes cs).getD (2 * j) d = .int (lo8 (cs.getD j 0))
  | [], j, h => absurd h (Nat.not_lt_zero j)
  | c :: cs, 0, _ => rfl
  | c :: cs, j + 1, h => by
    have q := wide_lo d cs j (by simpa using h)
    rw [show 2 * (j + 1) = 2 * j + 1 + 1 from by omega]
    simpa [wideBytes] using q
theorem wide_hi (d : Value) : ∀ (cs : List Int32) (j : Nat), j < cs.length → (wideBytes cs).getD (2 * j + 1) d = .int (hi8 (cs.getD j 0))
  | [], j, h => absurd h (Nat.not_lt_zero j)
  | c :: cs, 0, _ => rfl
  | c :: cs, j + 1, h => by
    have q := wide_hi d cs j (by simpa using h)
    rw [show 2 * (j + 1) + 1 = 2 * j + 1 + 1 + 1 from by omega]
    simpa [wideBytes] using q
theorem low_at (d : Value) (cs : List Int32) (j : Nat) (h : j < cs.length) : (cs.map fun c => Value.int (lo8 c)).getD j d = .int (lo8 (cs.getD j 0)) := by
  simp [List.getD_eq_getElem?_getD, h]
/-- an array of N2 bytes vs codes the chars cs by the coder cd -/
def CodA (cs : List Int32) (cd N2 : Int32) (vs : List Value) : Prop := (cd = 0 ∧ N2 = Int32.ofNat cs.length ∧ vs = (cs.map fun c => Value.int (lo8 c)) ∧ ∀ c ∈ cs, ¬ 255 < c) ∨ (cd = 1 ∧ N2 = Int32.ofNat (2 * cs.length) ∧ vs = wideBytes cs ∧ ∃ c ∈ cs, 255 < c)
theorem CodA.cod {cs : List Int32} {cd N2 : Int32} {vs : List Value} {V : Cell} (h : CodA cs cd N2 vs) (hn : 2 * cs.length < 2 ^ 31) (hs : V.slots.size = N2.toNatClampNeg) (hv : RoadKit.Has V vs (.int 0)) : Cod cd cs.length (fun j => cs.getD j 0) V := by
  rcases h with ⟨rfl, rfl, rfl, h⟩ | ⟨rfl, rfl, rfl, c, hc, hw⟩
  · rw [n32 (by omega)] at hs
    exact Or.inl ⟨rfl, hs, fun j hj => ⟨by rw [hv j (by omega), low_at _ _ _ hj], by
      have e : cs.getD j 0 = cs[j] := by simp [List.getD_eq_getElem?_getD, hj]
      show ¬ 255 < cs.getD j 0
      rw [e]; exact h _ (List.getElem_mem _)⟩⟩
  · rw [n32 (by omega)] at hs
    obtain ⟨j, hj, rfl⟩ := List.getElem_of_mem hc
    exact Or.inr ⟨rfl, hs, fun j hj => ⟨by rw [hv _ (by omega), wide_lo _ _ _ hj], by rw [hv _ (by omega), wide_hi _ _ _ hj]⟩, j, hj, by
      have e : cs.getD j 0 = cs[j] := by simp [List.getD_eq_getElem?_getD, hj]
      show 255 < cs.getD j 0
      rw [e]; exact hw⟩
/-- an object of exactly java/lang/String, its two fields found: as the laws ask it -/
theorem strObj {Z U : State} {a0 : Array Value} {kI : Nat} (wi : (Jvm.Cond.instantiable ST kI).before a0 Z = true) (al : Z.vm.Alike U.vm) {x : Addr} {v0 c0 : Value} (E : RoadKit.Exa Z U.heap x ST) (V : RoadKit.Fld Z U.heap x ST "value" "[B" v0) (C : RoadKit.Fld Z U.heap x ST "coder" "B" c0) :
    ∃ (D : Cell) (fV fC : Field), Blank ST x D U ∧ Found ST "value" "[B" fV U ∧ Found ST "coder" "B" fC U ∧ D.slots[fV.slot]? = some v0 ∧ D.slots[fC.slot]? = some c0 ∧ RoadKit.slotOf Z ST "value" "[B" = fV.slot ∧ RoadKit.slotOf Z ST "coder" "B" = fC.slot := by
  obtain ⟨D, cfV, kV, iV, fV, hD, gV, stV, knV, obV, asV, slV⟩ := V
  obtain ⟨D', cfC, kC, iC, fC, hD', gC, stC, -, -, asC, slC⟩ := C
  cases hD.symm.trans hD'
  obtain ⟨D2, kD, e1, e2, e3, e4, e5⟩ := E
  cases hD.symm.trans e1
  obtain ⟨c2, k2, i1, i2, i3, -⟩ := Cond.instantiable_spec wi
  cases e2.symm.trans i1
  cases e3.symm.trans i2
  obtain ⟨kU, u1, u2⟩ := al.2.2 _ _ e3
  exact ⟨D, fV, fC, ⟨hD, ⟨knV, fun q hq => by rw [hq] at obV; cases obV⟩, by rw [al.findClass]; exact e2, kU, u1, by rw [u2]; exact i3, by rw [u2]; exact e5 i3⟩, ⟨SBG.found_only al ⟨cfV, kV, iV, gV⟩, stV⟩, ⟨SBG.found_only al ⟨cfC, kC, iC, gC⟩, stC⟩, slV, slC, by simp [RoadKit.slotOf, gV], by simp [RoadKit.slotOf, gC]⟩
theorem sta_is {Z U : State} (al : Z.vm.Alike U.vm) {C n d : String} {v : Value} (S : RoadKit.Sta Z U.heap C n d v) : StaticIs U C n d v := by
  obtain ⟨cfS, iS, kS, fS, st, cS, t1, t2, t3, t4, t5, t6, t7⟩ := S
  exact StaticIs.there (s := { Z with heap := U.heap }) ⟨cfS, iS, kS, fS, st, cS, t1, t2, t3, t4, t5, (fun q => by rw [q] at t6; cases t6), t7⟩ al rfl
/-- **length() OF SUCH A STRING** -/
theorem lenW {p : Program} {l : Launch} {e : Env} {R : Room} {s : State} {args : Array Value} {below : List Frame} {len W : Nat} {Z : State} {a0 : Array Value} {h : Heap} (hZ : Z.Warmed39 s.vm) (hw : ∀ d ∈ wordsLen, d.before a0 Z = true) {kI : Nat} (wi : (Jvm.Cond.instantiable ST kI).before a0 Z = true)
    {x t : Addr} {kb : ClassId} {cs : List Int32} {cd N2 z : Int32} {vs : List Value} (E : RoadKit.Exa Z h x ST) (V : RoadKit.Fld Z h x ST "value" "[B" (.ref t)) (C : RoadKit.Fld Z h x ST "coder" "B" (.int cd)) (K : RoadKit.Arv Z h t kb .byte N2 vs (.int 0)) (hc : CodA cs cd N2 vs) (hb : ∀ c ∈ cs, ¬ c < 0 ∧ ¬ (65535 : Int32) < c)
    (S : RoadKit.Sta Z h ST "COMPACT_STRINGS" "Z" (.int z)) (hz : ¬ z = 0) (l2 : cs.length ≤ 4000) (hfr : 2 ≤ R.frames) (hlo : W + 25 ≤ R.locals) :
    Back l R p e below s args (⟨"java/lang/String", "length", "()I"⟩ : MethodName) len W (fun P a => a = #[.ref x] ∧ P.U.heap = h ∧ P.cells + 0 ≤ R.cells ∧ P.slots + 0 ≤ R.slots)
      (fun P _ v B => ∃ L, (v = some (.int (Int32.ofNat cs.length)) ∧ L = [] ∧ B.U.heap = h) ∧ B.locs = P.locs ++ L ∧ B.cells = P.cells + 0 ∧ B.slots = P.slots + 0) := by
  obtain ⟨A, K1, K2, K3, K4, K5, K6⟩ := K
  have hcod := hc.cod (by omega) K3 K5
  intro m meth c P g ig mk a X hg hsize hdg hW hn hp'
  obtain ⟨rfl, rfl, r1, r2⟩ := hp'
  have al : Z.vm.Alike P.U.vm := hZ.alike.trans X.warmed.alike
  obtain ⟨D, fV, fC, hB, F1, F2, g1, g2, -, -⟩ := strObj wi al E V C
  have hx : Txt x t A cd cs.length (fun j => cs.getD j 0) P.U := ⟨⟨_, hB.2.2.1, D, hB.1, rfl, by cases q : D.vm <;> first | rfl | exact absurd q (hB.2.1.2 _)⟩, Has.of hB F1 g1, Has.of hB F2 g2, ⟨K1.1, State.isArrayOf_alike al K1.2.1, K1.2.2, by rcases hcod with ⟨-, q, -⟩ | ⟨-, q, -⟩ <;> omega⟩, hcod, fun j hj => by
    have e : cs.getD j 0 = cs[j] := by simp [List.getD_eq_getElem?_getD, hj]
    show ¬ cs.getD j 0 < 0 ∧ ¬ 65535 < cs.getD j 0
    rw [e]; exact hb _ (List.getElem_mem _)⟩
  obtain ⟨v, B, X', ⟨⟨hv, hh⟩, hl, hk, hs⟩, st⟩ := Len.pays x t A cd cs.length (fun j => cs.getD j 0) z (tabLen_of (movedLen hZ hw)) hfr hlo m meth c P g ig mk _ X hg hsize hdg hW hn ⟨r1, r2, rfl, hx, sta_is al S, hz⟩
  exact ⟨v, B, X', ⟨[], ⟨hv, rfl, hh⟩, hl, hk, hs⟩, st⟩
end StrChars.Road
namespace StrChars
open Jvm Sem ClassFile Op Lib Jvm.Stand Jvm.Free.XT Jvm.Free.ALB Jvm.Free.JM Jvm.Free
open Jvm.Lib.Cold (StaticIs)
namespace Emp
def yN : MethodName := ⟨"java/lang/String", "isEmpty", "()Z"⟩
abbrev yB : ByteArray := jdk_42_method_55_code
theorem d0 : decode yB 0 = .ok (.aload_n 0, 1) := by decide +kernel
theorem d1 : decode yB 1 = .ok (.getfield 9, 3) := by decide +kernel
theorem d4 : decode yB 4 = .ok (.arraylength, 1) := by decide +kernel
theorem d5 : decode yB 5 = .ok (.ifCond (.ne) 7, 3) := by decide +kernel
theorem d8 : decode yB 8 = .ok (.iconst 1, 1) := by decide +kernel
theorem d9 : decode yB 9 = .ok (.goto 4, 3) := by decide +kernel
theorem d12 : decode yB 12 = .ok (.iconst 0, 1) := by decide +kernel
theorem d13 : decode yB 13 = .ok (.ireturn, 1) := by decide +kernel
def site : List Cond := [.fieldLink "java/lang/String" 9 "java/lang/String" "value" "[B"]
def tab : Cond := tabOf yN yB 1 (some .boolean) site
def P (x t : Addr) (V : Cell) (cd : Int32) (n : Nat) (f : Nat → Int32) (args : Array Value) (s : State) : Prop := args = #[.ref x] ∧ Txt x t V cd n f s
def E (n : Nat) (r : Option Value) (s u : State) : Prop := XT.PureE (some (.int (if n = 0 then 1 else 0))) r s u
/-- isEmpty() of a String of n chars -/
theorem law (l : Launch) (x t : Addr) (V : Cell) (cd : Int32) (n : Nat) (f : Nat → Int32) : Law l yN 1 0 0 0 yB 1 (some .boolean) site (P x t V cd n f) (E n) [] 0 0 := by
  refine Law.of_walk (plainFor_of_name (by decide +kernel)) (by decide +kernel) (by decide +kernel) (by decide) (fun _ _ h => by rw [h.1]; rfl) (fun _ U U' hal hh h => ⟨h.1, h.2.mv hal hh⟩) (fun r U U' V V' h1 hal h2 h => XT.PureE.mv r U U' V V' h1 hal h2 h) ?_
  intro p e s m args below meth c s₁ X0 hexec hbytes hml hret hlk hnm hown hh0 W hP
  obtain ⟨rfl, hx⟩ := hP
  have v31 := hx.2.2.2.1.2.2.2
  have c1 : Steps p.tables e below (s₁.setTop (entryFrame m #[.ref x] 1)) (s₁.setTop (mkF m 1 #[.val (.ref x)] [.ref x])) := Steps.trans (entry rfl) (by
    show Steps p.tables e below (s₁.setTop (mkF m 0 #[.val (.ref x)] [])) _
    refine XS.aloadN X0.here hexec rfl (hb hbytes d0) rfl rfl ?_
    exact Steps.refl _)
  obtain ⟨T2, X2, q2, st2⟩ := X0.hget hexec hown (wk W (.fieldLink "java/lang/String" 9 "java/lang/String" "value" "[B")) (hx.mv X0.warmed.alike hh0).2.1 (g := (mkF m 1 #[.val (.ref x)] [.ref x])) rfl (rest := []) rfl (hb hbytes d1)
  have hh2 := q2.trans hh0
  have hx2 := hx.mv X2.warmed.alike hh2
  have c3 : Steps p.tables e below (s₁.setTop (entryFrame m #[.ref x] 1)) (T2.setTop (mkF m 5 #[.val (.ref x)] [.int (Int32.ofNat V.slots.size)])) := (c1.trans (st2 _ (Steps.refl _))).trans (by
    refine X2.alen hexec hx2.2.2.2.1 rfl rfl (hb hbytes d4) ?_
    exact Steps.refl _)
  have hz : V.slots.size = 0 ↔ n = 0 := by
    rcases hx.2.2.2.2.1 with ⟨-, q, -⟩ | ⟨-, q, -⟩ <;> omega
  by_cases h0 : n = 0
  · have c4 : Steps p.tables e below (s₁.setTop (entryFrame m #[.ref x] 1)) (T2.setTop (mkF m 13 #[.val (.ref x)] [.int 1])) := c3.trans (by
      refine XS.ifNo X2.here hexec rfl (hb hbytes d5) rfl (i0_ne_f (by rw [hz.mpr h0]; rfl)) ?_
      refine iconstV X2.here hexec rfl 1 (hb hbytes d8) (by decide) ?_
      refine XS.goto X2.here hexec rfl (pc0 := 9) rfl (hb hbytes d9) (by decide) rfl ?_
      exact Steps.refl _)
    exact ⟨T2, some (.int 1), _, _, _, X2, rfl, rfl, rfl, (fun h => by cases h), ⟨by rw [if_pos h0], hh2⟩, fun fs hl => c4.trans (X2.ireturnOut hexec hret rfl (Or.inr (Or.inl rfl)) (hb hbytes d13) hl)⟩
  · have c4 : Steps p.tables e below (s₁.setTop (entryFrame m #[.ref x] 1)) (T2.setTop (mkF m 13 #[.val (.ref x)] [.int 0])) := c3.trans (by
      refine XS.ifYes X2.here hexec rfl (pc0 := 5) rfl (hb hbytes d5) rfl (i0_ne_t (nz32 v31 (by omega))) (by decide) rfl ?_
      refine iconstV X2.here hexec rfl 0 (hb hbytes d12) (by decide) ?_
      exact Steps.refl _)
    exact ⟨T2, some (.int 0), _, _, _, X2, rfl, rfl, rfl, (fun h => by cases h), ⟨by rw [if_neg h0], hh2⟩, fun fs hl => c4.trans (X2.ireturnOut hexec hret rfl (Or.inr (Or.inl rfl)) (hb hbytes d13) hl)⟩
theorem pays {l : Launch} {R : Room} {p : Program} {e : Env} {below : List Frame} {s : State} {sargs : Array Value} {len W : Nat} (x t : Addr) (V : Cell) (cd : Int32) (n : Nat) (f : Nat → Int32) (htab : tab.before sargs s = true) (hfr : 1 ≤ R.frames) (hlo : W + 12 ≤ R.locals) :
    Back l R p e below s sargs yN len W (fun A₁ a₁ => A₁.cells + 0 ≤ R.cells ∧ A₁.slots + 0 ≤ R.slots ∧ P x t V cd n f a₁ A₁.U) (fun A₁ _ v₁ B₁ => E n v₁ A₁.U B₁.U ∧ B₁.locs = A₁.locs ++ [] ∧ B₁.cells = A₁.cells + 0 ∧ B₁.slots = A₁.slots + 0) :=
  (law l x t V cd n f).pays htab hfr (by omega)
end Emp
/-- what place i of a byte[]'s cell holds -/
def yv (A : Cell) (i : Nat) : Int32 := match A.slots[i]? with | some (.int x) => x | _ => 0
theorem yv_get {a : Addr} {A : Cell} {U : State} (h : XT.Arr .byte a A U) (ht : Typed .byte A) {i : Nat} (hi : i < A.slots.size) : A.slots[i]? = some (.int (yv A i)) := by
  have e := Array.getElem?_eq_getElem hi
  have f := ht i _ e
  unfold yv; rw [e]
  generalize A.slots[i] = v at f
  cases v <;> simp [fits] at f ⊢
/-- the two arrays are equal, place for place -/
def EqC (A B : Cell) : Prop := A.slots.size = B.slots.size ∧ ∀ i, i < A.slots.size → yv A i = yv B i
/-- a boolean that says whether p -/
def Says01 (q : Prop) (r : Option Value) (s u : State) : Prop := ∃ v : Int32, r = some (.int v) ∧ u.heap = s.heap ∧ ((v = 1 ∧ q) ∨ (v = 0 ∧ ¬ q))
theorem Says01.mv {q : Prop} : ∀ r (U U' V V' : State), U'.heap = U.heap → V.vm.Alike V'.vm → V'.heap = V.heap → Says01 q r U V → Says01 q r U' V' :=
  fun r U U' V V' h1 _ h2 ⟨v, a, b, c⟩ => ⟨v, a, by rw [h1, h2]; exact b, c⟩
namespace LEq
def yN : MethodName := ⟨"java/lang/StringLatin1", "equals", "([B[B)Z"⟩
abbrev yB : ByteArray := jdk_43_method_13_code
theorem d0 : decode yB 0 = .ok (.aload_n 0, 1) := by decide +kernel
theorem d1 : decode yB 1 = .ok (.arraylength, 1) := by decide +kernel
theorem d2 : decode yB 2 = .ok (.aload_n 1, 1) := by decide +kernel
theorem d3 : decode yB 3 = .ok (.arraylength, 1) := by decide +kernel
theorem d4 : decode yB 4 = .ok (.if_icmp (.ne) 30, 3) := by decide +kernel
theorem d7 : decode yB 7 = .ok (.iconst 0, 1) := by decide +kernel
theorem d8 : decode yB 8 = .ok (.istore_n 2, 1) := by decide +kernel
theorem d9 : decode yB 9 = .ok (.iload_n 2, 1) := by decide +kernel
theorem d10 : decode yB 10 = .ok (.aload_n 0, 1) := by decide +kernel
theorem d11 : decode yB 11 = .ok (.arraylength, 1) := by decide +kernel
theorem d12 : decode yB 12 = .ok (.if_icmp (.ge) 20, 3) := by decide +kernel
theorem d15 : decode yB 15 = .ok (.aload_n 0, 1) := by decide +kernel
theorem d16 : decode yB 16 = .ok (.iload_n 2, 1) := by decide +kernel
theorem d17 : decode yB 17 = .ok (.baload, 1) := by decide +kernel
theorem d18 : decode yB 18 = .ok (.aload_n 1, 1) := by decide +kernel
theorem d19 : decode yB 19 = .ok (.iload_n 2, 1) := by decide +kernel
theorem d20 : decode yB 20 = .ok (.baload, 1) := by decide +kernel
theorem d21 : decode yB 21 = .ok (.if_icmp (.eq) 5, 3) := by decide +kernel
theorem d24 : decode yB 24 = .ok (.iconst 0, 1) := by decide +kernel
theorem d25 : decode yB 25 = .ok (.ireturn, 1) := by decide +kernel
theorem d26 : decode yB 26 = .ok (.iinc 2 1, 3) := by decide +kernel
theorem d29 : decode yB 29 = .ok (.goto (-20), 3) := by decide +kernel
theorem d32 : decode yB 32 = .ok (.iconst 1, 1) := by decide +kernel
theorem d33 : decode yB 33 = .ok (.ireturn, 1) := by decide +kernel
theorem d34 : decode yB 34 = .ok (.iconst 0, 1) := by decide +kernel
theorem d35 : decode yB 35 = .ok (.ireturn, 1) := by decide +kernel
def site : List Cond := []
def tab : Cond := tabOf yN yB 3 (some .boolean) site
def P (a : Addr) (A : Cell) (b : Addr) (B : Cell) (args : Array Value) (s : State) : Prop := args = #[.ref a, .ref b] ∧ XT.Arr .byte a A s ∧ Typed .byte A ∧ XT.Arr .byte b B s ∧ Typed .byte B
/-- whether two byte[] are equal, place for place -/
theorem law (l : Launch) (a : Addr) (A : Cell) (b : Addr) (B : Cell) : Law l yN 2 2 0 0 yB 3 (some .boolean) site (P a A b B) (Says01 (EqC A B)) [] 0 0 := by
  refine Law.of_walk (plainFor_of_name (by decide +kernel)) (by decide +kernel) (by decide +kernel) (by decide) (fun _ _ h => by rw [h.1]; rfl) (fun _ U U' hal hh h => ⟨h.1, h.2.1.mv hal hh, h.2.2.1, h.2.2.2.1.mv hal hh, h.2.2.2.2⟩) (fun r U U' V V' h1 hal h2 h => Says01.mv r U U' V V' h1 hal h2 h) ?_
  intro p e s m args below meth c s₁ X0 hexec hbytes hml hret hlk hnm hown hh0 W hP
  obtain ⟨rfl, hA, tA, hB, tB⟩ := hP
  have a31 := hA.2.2.2
  have b31 := hB.2.2.2
  have hA0 := hA.mv X0.warmed.alike hh0
  have hB0 := hB.mv X0.warmed.alike hh0
  have c1 : Steps p.tables e below (s₁.setTop (entryFrame m #[.ref a, .ref b] 3)) (s₁.setTop (mkF m 0 #[.val (.ref a), .val (.ref b), .unset] [])) := entry rfl
  have c2 : Steps p.tables e below (s₁.setTop (entryFrame m #[.ref a, .ref b] 3)) (s₁.setTop (mkF m 4 #[.val (.ref a), .val (.ref b), .unset] [.int (Int32.ofNat B.slots.size), .int (Int32.ofNat A.slots.size)])) := c1.trans (by
    refine XS.aloadN X0.here hexec rfl (hb hbytes d0) rfl rfl ?_
    refine X0.alen hexec hA0 rfl rfl (hb hbytes d1) ?_
    refine XS.aloadN X0.here hexec rfl (hb hbytes d2) rfl rfl ?_
    refine X0.alen hexec hB0 rfl rfl (hb hbytes d3) ?_
    exact Steps.refl _)
  by_cases hs : A.slots.size = B.slots.size
  · have c3 : Steps p.tables e below (s₁.setTop (entryFrame m #[.ref a, .ref b] 3)) (s₁.setTop (mkF m 9 #[.val (.ref a), .val (.ref b), .val (.int 0)] [])) := c2.trans (by
      refine XS.icmpNo X0.here hexec rfl (hb hbytes d4) rfl (ii_ne_f (by rw [hs])) ?_
      refine iconstV X0.here hexec rfl 0 (hb hbytes d7) (by decide) ?_
      refine XS.istoreN X0.here hexec rfl (hb hbytes d8) rfl rfl ?_
      exact Steps.refl _)
    have loop : ∀ (r i : Nat), i + r = A.slots.size → (∀ j, j < i → yv A j = yv B j) → Steps p.tables e below (s₁.setTop (entryFrame m #[.ref a, .ref b] 3)) (s₁.setTop (mkF m 9 #[.val (.ref a), .val (.ref b), .val (.int (Int32.ofNat i))] [])) → ∃ (pc : Nat) (Ls : Array Slot) (v : Int32), (pc = 25 ∨ pc = 33) ∧ ((v = 1 ∧ EqC A B) ∨ (v = 0 ∧ ¬ EqC A B)) ∧ Steps p.tables e below (s₁.setTop (entryFrame m #[.ref a, .ref b] 3)) (s₁.setTop (mkF m pc Ls [.int v])) := by
      intro r
      induction r with
      | zero =>
        intro i hi he cl
        exact ⟨33, _, 1, Or.inr rfl, Or.inl ⟨rfl, hs, fun j hj => he j (by omega)⟩, cl.trans (by
          refine XS.iloadN X0.here hexec rfl (hb hbytes d9) rfl ?_
          refine XS.aloadN X0.here hexec rfl (hb hbytes d10) rfl rfl ?_
          refine X0.alen hexec hA0 rfl rfl (hb hbytes d11) ?_
          refine XS.icmpYes X0.here hexec rfl (pc0 := 12) rfl (hb hbytes d12) rfl (ii_ge_t (nlt32 (by omega) (by omega))) (by decide) rfl ?_
          refine iconstV X0.here hexec rfl 1 (hb hbytes d32) (by decide) ?_
          exact Steps.refl _)⟩
      | succ r ih =>
        intro i hi he cl
        have c4 : Steps p.tables e below (s₁.setTop (entryFrame m #[.ref a, .ref b] 3)) (s₁.setTop (mkF m 21 #[.val (.ref a), .val (.ref b), .val (.int (Int32.ofNat i))] [.int (yv B i), .int (yv A i)])) := cl.trans (by
          refine XS.iloadN X0.here hexec rfl (hb hbytes d9) rfl ?_
          refine XS.aloadN X0.here hexec rfl (hb hbytes d10) rfl rfl ?_
          refine X0.alen hexec hA0 rfl rfl (hb hbytes d11) ?_
          refine XS.icmpNo X0.here hexec rfl (hb hbytes d12) rfl (ii_ge_f (lt32 (by omega) (by omega))) ?_
          refine XS.aloadN X0.here hexec rfl (hb hbytes d15) rfl rfl ?_
          refine XS.iloadN X0.here hexec rfl (hb hbytes d16) rfl ?_
          refine X0.aget hexec hA0 rfl (yv_get hA tA (i := i) (by omega)) rfl rfl (hb hbytes d17) ?_
          refine XS.aloadN X0.here hexec rfl (hb hbytes d18) rfl rfl ?_
          refine XS.iloadN X0.here hexec rfl (hb hbytes d19) rfl ?_
          refine X0.aget hexec hB0 rfl (yv_get hB tB (i := i) (by omega)) rfl rfl (hb hbytes d20) ?_
          exact Steps.refl _)
        by_cases hv : yv A i = yv B i
        · have c5 : Steps p.tables e below (s₁.setTop (entryFrame m #[.ref a, .ref b] 3)) (s₁.setTop (mkF m 9 #[.val (.ref a), .val (.ref b), .val (.int (Int32.ofNat i + 1))] [])) := c4.trans (by
            refine XS.icmpYes X0.here hexec rfl (pc0 := 21) rfl (hb hbytes d21) rfl (ii_eq_t hv) (by decide) rfl ?_
            refine iincV X0.here hexec rfl 1 (hb hbytes d26) (by decide) rfl rfl ?_
            refine XS.goto X0.here hexec rfl (pc0 := 29) rfl (hb hbytes d29) (by decide) rfl ?_
            exact Steps.refl _)
          rw [succ32] at c5
          exact ih (i + 1) (by omega) (fun j hj => by
            by_cases e : j = i
            · rw [e]; exact hv
            · exact he j (by omega)) c5
        · exact ⟨25, _, 0, Or.inl rfl, Or.inr ⟨rfl, fun q => hv (q.2 i (by omega))⟩, c4.trans (by
            refine XS.icmpNo X0.here hexec rfl (hb hbytes d21) rfl (ii_eq_f hv) ?_
            refine iconstV X0.here hexec rfl 0 (hb hbytes d24) (by decide) ?_
            exact Steps.refl _)⟩
    obtain ⟨pc, Ls, v, hpc, hv, cz⟩ := loop A.slots.size 0 (by omega) (fun j hj => absurd hj (Nat.not_lt_zero j)) c3
    have nv : narrow .boolean (.int v) = .int v := by rcases hv with ⟨rfl, -⟩ | ⟨rfl, -⟩ <;> rfl
    rcases hpc with rfl | rfl
    · exact ⟨s₁, some (.int v), _, _, _, X0, rfl, rfl, rfl, (fun h => by cases h), ⟨v, rfl, hh0, hv⟩, fun fs hl => cz.trans (X0.ireturnOut hexec hret nv (Or.inr (Or.inl rfl)) (hb hbytes d25) hl)⟩
    · exact ⟨s₁, some (.int v), _, _, _, X0, rfl, rfl, rfl, (fun h => by cases h), ⟨v, rfl, hh0, hv⟩, fun fs hl => cz.trans (X0.ireturnOut hexec hret nv (Or.inr (Or.inl rfl)) (hb hbytes d33) hl)⟩
  · have c3 : Steps p.tables e below (s₁.setTop (entryFrame m #[.ref a, .ref b] 3)) (s₁.setTop (mkF m 35 #[.val (.ref a), .val (.ref b), .unset] [.int 0])) := c2.trans (by
      refine XS.icmpYes X0.here hexec rfl (pc0 := 4) rfl (hb hbytes d4) rfl (ii_ne_t (ne32 a31 b31 hs)) (by decide) rfl ?_
      refine iconstV X0.here hexec rfl 0 (hb hbytes d34) (by decide) ?_
      exact Steps.refl _)
    exact ⟨s₁, some (.int 0), _, _, _, X0, rfl, rfl, rfl, (fun h => by cases h), ⟨0, rfl, hh0, Or.inr ⟨rfl, fun q => hs q.1⟩⟩, fun fs hl => c3.trans (X0.ireturnOut hexec hret rfl (Or.inr (Or.inl rfl)) (hb hbytes d35) hl)⟩
end LEq
theorem Cod.ty {cd : Int32} {n : Nat} {f : Nat → Int32} {V : Cell} (h : Cod cd n f V) : Typed .byte V := fun i v hv => by
  have hi : i < V.slots.size := (Array.getElem?_eq_some_iff.mp hv).1
  rcases h with ⟨-, k1, k2⟩ | ⟨-, k1, k2, -⟩
  · rw [(k2 i (by omega)).1] at hv; cases hv; exact fits_lo8 _
  · rcases Nat.mod_two_eq_zero_or_one i with e | e
    · obtain ⟨j, rfl⟩ : ∃ j, i = 2 * j := ⟨i / 2, by omega⟩
      rw [(k2 j (by omega)).1] at hv; cases hv; exact fits_lo8 _
    · obtain ⟨j, rfl⟩ : ∃ j, i = 2 * j + 1 := ⟨i / 2, by omega⟩
      rw [(k2 j (by omega)).2] at hv; cases hv; exact fits_lo8 _
/-- the same text -/
def SameT (n : Nat) (f : Nat → Int32) (k : Nat) (g : Nat → Int32) : Prop := n = k ∧ ∀ j, j < n → f j = g j
theorem lo8_inj {x y : Int32} (h0 : ¬ x < 0) (h1 : ¬ 255 < x) (k0 : ¬ y < 0) (k1 : ¬ 255 < y) (h : lo8 x = lo8 y) : x = y := by
  rw [← lo8_mask h0 h1, ← lo8_mask k0 k1, h]
/-- arrays coded by one coder are equal just where the texts are -/
theorem Cod.eqv {cd : Int32} {n k : Nat} {f g : Nat → Int32} {V V' : Cell} (h : Cod cd n f V) (h' : Cod cd k g V') (hf : ∀ j, j < n → ¬ f j < 0 ∧ ¬ 65535 < f j) (hg : ∀ j, j < k → ¬ g j < 0 ∧ ¬ 65535 < g j) : EqC V V' ↔ SameT n f k g := by
  have yvv : ∀ {W : Cell} {i : Nat} {x : Int32}, W.slots[i]? = some (.int x) → yv W i = x := fun q => by unfold yv; rw [q]
  rcases h with ⟨rfl, k1, k2⟩ | ⟨rfl, k1, k2, -⟩
  · rcases h' with ⟨-, m1, m2⟩ | ⟨e, -⟩
    · constructor
      · rintro ⟨e1, e2⟩
        refine ⟨by omega, fun j hj => ?_⟩
        have q := e2 j (by omega)
        rw [yvv (k2 j hj).1, yvv (m2 j (by omega)).1] at q
        exact lo8_inj (hf j hj).1 (k2 j hj).2 (hg j (by omega)).1 (m2 j (by omega)).2 q
      · rintro ⟨rfl, e2⟩
        refine ⟨by omega, fun j hj => ?_⟩
        rw [yvv (k2 j (by omega)).1, yvv (m2 j (by omega)).1, e2 j (by omega)]
    · exact absurd e (by decide)
  · rcases h' with ⟨e, -⟩ | ⟨-, m1, m2, -⟩
    · exact absurd e (by decide)
    · constructor
      · rintro ⟨e1, e2⟩
        refine ⟨by omega, fun j hj => ?_⟩
        have q1 := e2 (2 * j) (by omega)
        have q2 := e2 (2 * j + 1) (by omega)
        rw [yvv (k2 j hj).1, yvv (m2 j (by omega)).1] at q1
        rw [yvv (k2 j hj).2, yvv (m2 j (by omega)).2] at q2
        rw [← pair_says (hf j hj).1 (hf j hj).2, ← pair_says (hg j (by omega)).1 (hg j (by omega)).2, q1, q2]
      · rintro ⟨rfl, e2⟩
        refine ⟨by omega, fun i hi => ?_⟩
        rcases Nat.mod_two_eq_zero_or_one i with e | e
        · obtain ⟨j, rfl⟩ : ∃ j, i = 2 * j := ⟨i / 2, by omega⟩
          rw [yvv (k2 j (by omega)).1, yvv (m2 j (by omega)).1, e2 j (by omega)]
        · obtain ⟨j, rfl⟩ : ∃ j, i = 2 * j + 1 := ⟨i / 2, by omega⟩
          rw [yvv (k2 j (by omega)).2, yvv (m2 j (by omega)).2, e2 j (by omega)]
/-- two codings differ: so do the texts -/
theorem Cod.dif {cd cd' : Int32} {n k : Nat} {f g : Nat → Int32} {V V' : Cell} (h : Cod cd n f V) (h' : Cod cd' k g V') (hne : ¬ cd = cd') : ¬ SameT n f k g := by
  rintro ⟨rfl, e⟩
  rcases h with ⟨rfl, -, k2⟩ | ⟨rfl, -, -, j, hj, hw⟩
  · rcases h' with ⟨rfl, -⟩ | ⟨-, -, -, j, hj, hw⟩
    · exact hne rfl
    · exact (k2 j hj).2 (by rw [e j hj]; exact hw)
  · rcases h' with ⟨-, -, m2⟩ | ⟨rfl, -⟩
    · exact (m2 j hj).2 (by rw [← e j hj]; exact hw)
    · exact hne rfl
/-- an object of exactly C is an instance of C -/
theorem cinst {p : Program} {l : Launch} {e : Env} {R : Room} {s : State} {m : MethodId} {args : Array Value} {below : List Frame} {meth : Method} {c : Code} {T : State} {locs : List Loc} {cells slots : Nat} (X : Stand p l e R s m args below meth c T locs cells slots) (hexec : p.tables.exec = Jvm.exec) {own C : String} {index : Nat} (hown : s.vm.findClass own = some m.cls) (hlink : (Cond.classLink own index C).before args s = true) {a : Addr} (hE : Exact C a T)
    {g : JFrame} (hg : g.method = m) {rest : List Value} (hstack : g.stack = .ref a :: rest) (hdg : decode c.code g.pc = .ok (.instanceof index, 3)) :
    ∃ T', Stand p l e R s m args below meth c T' locs cells slots ∧ T'.heap = T.heap ∧ ∀ target, Steps p.tables e below (T'.setTop { g with pc := g.pc + 3, stack := .int 1 :: rest }) target → Steps p.tables e below (T.setTop g) target := by
  obtain ⟨cB, h1, D, h2, h3, h4⟩ := hE
  have h1' : s.vm.findClass C = some cB := by rw [← X.warmed.alike.findClass]; exact h1
  obtain ⟨vm', X', st⟩ := X.instanceofYes hexec hown hlink h2 h4 h1' (by rw [h3]; exact Jvm.Free.SB.assignable_self _ _) hg hstack hdg
  exact ⟨_, X', rfl, st⟩
theorem cself {p : Program} {l : Launch} {e : Env} {R : Room} {s : State} {m : MethodId} {args : Array Value} {below : List Frame} {meth : Method} {c : Code} {T : State} {locs : List Loc} {cells slots : Nat} (X : Stand p l e R s m args below meth c T locs cells slots) (hexec : p.tables.exec = Jvm.exec) {own C : String} {index : Nat} (hown : s.vm.findClass own = some m.cls) (hlink : (Cond.classLink own index C).before args s = true) {a : Addr} (hE : Exact C a T)
    {g : JFrame} (hg : g.method = m) {rest : List Value} (hstack : g.stack = .ref a :: rest) (hdg : decode c.code g.pc = .ok (.checkcast index, 3)) :
    ∃ T', Stand p l e R s m args below meth c T' locs cells slots ∧ T'.heap = T.heap ∧ ∀ target, Steps p.tables e below (T'.setTop { g with pc := g.pc + 3, stack := .ref a :: rest }) target → Steps p.tables e below (T.setTop g) target := by
  obtain ⟨cB, h1, D, h2, h3, h4⟩ := hE
  have h1' : s.vm.findClass C = some cB := by rw [← X.warmed.alike.findClass]; exact h1
  obtain ⟨vm', X', st⟩ := X.checkcastYes hexec hown hlink h2 h4 h1' (by rw [h3]; exact Jvm.Free.SB.assignable_self _ _) hg hstack hdg
  exact ⟨_, X', rfl, fun t h => st t (by rw [← hstack] at h; exact h)⟩
namespace SEq
def yN : MethodName := ⟨"java/lang/String", "equals", "(Ljava/lang/Object;)Z"⟩
abbrev yB : ByteArray := jdk_42_method_66_code
theorem d0 : decode yB 0 = .ok (.aload_n 0, 1) := by decide +kernel
theorem d1 : decode yB 1 = .ok (.aload_n 1, 1) := by decide +kernel
theorem d2 : decode yB 2 = .ok (.if_acmp (.ne) 5, 3) := by decide +kernel
theorem d5 : decode yB 5 = .ok (.iconst 1, 1) := by decide +kernel
theorem d6 : decode yB 6 = .ok (.ireturn, 1) := by decide +kernel
theorem d7 : decode yB 7 = .ok (.aload_n 1, 1) := by decide +kernel
theorem d8 : decode yB 8 = .ok (.instanceof 10, 3) := by decide +kernel
theorem d11 : decode yB 11 = .ok (.ifCond (.eq) 43, 3) := by decide +kernel
theorem d14 : decode yB 14 = .ok (.aload_n 1, 1) := by decide +kernel
theorem d15 : decode yB 15 = .ok (.checkcast 10, 3) := by decide +kernel
theorem d18 : decode yB 18 = .ok (.astore_n 2, 1) := by decide +kernel
theorem d19 : decode yB 19 = .ok (.getstatic 38, 3) := by decide +kernel
theorem d22 : decode yB 22 = .ok (.ifCond (.eq) 14, 3) := by decide +kernel
theorem d25 : decode yB 25 = .ok (.aload_n 0, 1) := by decide +kernel
theorem d26 : decode yB 26 = .ok (.getfield 15, 3) := by decide +kernel
theorem d29 : decode yB 29 = .ok (.aload_n 2, 1) := by decide +kernel
theorem d30 : decode yB 30 = .ok (.getfield 15, 3) := by decide +kernel
theorem d33 : decode yB 33 = .ok (.if_icmp (.ne) 21, 3) := by decide +kernel
theorem d36 : decode yB 36 = .ok (.aload_n 0, 1) := by decide +kernel
theorem d37 : decode yB 37 = .ok (.getfield 9, 3) := by decide +kernel
theorem d40 : decode yB 40 = .ok (.aload_n 2, 1) := by decide +kernel
theorem d41 : decode yB 41 = .ok (.getfield 9, 3) := by decide +kernel
theorem d44 : decode yB 44 = .ok (.invokestatic 541, 3) := by decide +kernel
theorem d47 : decode yB 47 = .ok (.ifCond (.eq) 7, 3) := by decide +kernel
theorem d50 : decode yB 50 = .ok (.iconst 1, 1) := by decide +kernel
theorem d51 : decode yB 51 = .ok (.goto 4, 3) := by decide +kernel
theorem d54 : decode yB 54 = .ok (.iconst 0, 1) := by decide +kernel
theorem d55 : decode yB 55 = .ok (.ireturn, 1) := by decide +kernel
def site : List Cond := [.classLink "java/lang/String" 10 "java/lang/String", .fieldLink "java/lang/String" 38 "java/lang/String" "COMPACT_STRINGS" "Z", .fieldLink "java/lang/String" 15 "java/lang/String" "coder" "B", .fieldLink "java/lang/String" 9 "java/lang/String" "value" "[B", LEq.tab] ++ staticW "java/lang/String" 541 LEq.yN
def tab : Cond := tabOf yN yB 3 (some .boolean) site
def P (x t : Addr) (V : Cell) (cd : Int32) (n : Nat) (f : Nat → Int32) (y t' : Addr) (V' : Cell) (cd' : Int32) (k : Nat) (g : Nat → Int32) (z : Int32) (args : Array Value) (s : State) : Prop := args = #[.ref x, .ref y] ∧ Txt x t V cd n f s ∧ Txt y t' V' cd' k g s ∧ StaticIs s "java/lang/String" "COMPACT_STRINGS" "Z" (.int z) ∧ ¬ z = 0
/-- equals(Object) of two Strings: whether the texts are the same -/
theorem law (l : Launch) (x t : Addr) (V : Cell) (cd : Int32) (n : Nat) (f : Nat → Int32) (y t' : Addr) (V' : Cell) (cd' : Int32) (k : Nat) (g : Nat → Int32) (z : Int32) : Law l yN 2 1 1 14 yB 3 (some .boolean) site (P x t V cd n f y t' V' cd' k g z) (Says01 (SameT n f k g)) [] 0 0 := by
  refine Law.of_walk (plainFor_of_name (by decide +kernel)) (by decide +kernel) (by decide +kernel) (by decide) (fun _ _ h => by rw [h.1]; rfl) (fun _ U U' hal hh h => ⟨h.1, h.2.1.mv hal hh, h.2.2.1.mv hal hh, h.2.2.2.1.there hal hh, h.2.2.2.2⟩) (fun r U U' V V' h1 hal h2 h => Says01.mv r U U' V V' h1 hal h2 h) ?_
  intro p e s m args below meth c s₁ X0 hexec hbytes hml hret hlk hnm hown hh0 W hP
  obtain ⟨rfl, hx, hy, s1, hz⟩ := hP
  have c1 : Steps p.tables e below (s₁.setTop (entryFrame m #[.ref x, .ref y] 3)) (s₁.setTop (mkF m 2 #[.val (.ref x), .val (.ref y), .unset] [.ref y, .ref x])) := Steps.trans (entry rfl) (by
    show Steps p.tables e below (s₁.setTop (mkF m 0 #[.val (.ref x), .val (.ref y), .unset] [])) _
    refine XS.aloadN X0.here hexec rfl (hb hbytes d0) rfl rfl ?_
    refine XS.aloadN X0.here hexec rfl (hb hbytes d1) rfl rfl ?_
    exact Steps.refl _)
  by_cases hxy : x = y
  · have c2 : Steps p.tables e below (s₁.setTop (entryFrame m #[.ref x, .ref y] 3)) (s₁.setTop (mkF m 6 #[.val (.ref x), .val (.ref y), .unset] [.int 1])) := c1.trans (by
      refine acmpNo X0.here hexec rfl (hb hbytes d2) rfl rfl rfl (by simp [acmp, hxy]) ?_
      refine iconstV X0.here hexec rfl 1 (hb hbytes d5) (by decide) ?_
      exact Steps.refl _)
    subst hxy
    have ec : cd = cd' := by
      obtain ⟨D, fd, a1, a2, a3⟩ := hx.2.2.1
      obtain ⟨D', fd', b1, b2, b3⟩ := hy.2.2.1
      cases a1.symm.trans b1
      obtain ⟨q1, q2, q3, q4⟩ := a2.1
      obtain ⟨r1, r2, r3, r4⟩ := b2.1
      cases q4.symm.trans r4
      cases a3.symm.trans b3; rfl
    have et : t = t' := by
      obtain ⟨D, fd, a1, a2, a3⟩ := hx.2.1
      obtain ⟨D', fd', b1, b2, b3⟩ := hy.2.1
      cases a1.symm.trans b1
      obtain ⟨q1, q2, q3, q4⟩ := a2.1
      obtain ⟨r1, r2, r3, r4⟩ := b2.1
      cases q4.symm.trans r4
      cases a3.symm.trans b3; rfl
    subst ec et
    have ev : V = V' := by cases hx.2.2.2.1.1.symm.trans hy.2.2.2.1.1; rfl
    subst ev
    have hs : SameT n f k g := (Cod.eqv hx.2.2.2.2.1 hy.2.2.2.2.1 hx.2.2.2.2.2 hy.2.2.2.2.2).mp ⟨rfl, fun _ _ => rfl⟩
    exact ⟨s₁, some (.int 1), _, _, _, X0, rfl, rfl, rfl, (fun h => by cases h), ⟨1, rfl, hh0, Or.inl ⟨rfl, hs⟩⟩, fun fs hl => c2.trans (X0.ireturnOut hexec hret rfl (Or.inr (Or.inl rfl)) (hb hbytes d6) hl)⟩
  · have c2 : Steps p.tables e below (s₁.setTop (entryFrame m #[.ref x, .ref y] 3)) (s₁.setTop (mkF m 8 #[.val (.ref x), .val (.ref y), .unset] [.ref y])) := c1.trans (by
      refine acmpYes X0.here hexec rfl (pc0 := 2) rfl (hb hbytes d2) rfl rfl rfl (by simp [acmp, hxy]) (by decide) rfl ?_
      refine XS.aloadN X0.here hexec rfl (hb hbytes d7) rfl rfl ?_
      exact Steps.refl _)
    obtain ⟨T3, X3, q3, st3⟩ := cinst X0 hexec hown (wk W (.classLink "java/lang/String" 10 "java/lang/String")) (hy.mv X0.warmed.alike hh0).1 (g := (mkF m 8 #[.val (.ref x), .val (.ref y), .unset] [.ref y])) rfl (rest := []) rfl (hb hbytes d8)
    have hh3 := q3.trans hh0
    have c4 : Steps p.tables e below (s₁.setTop (entryFrame m #[.ref x, .ref y] 3)) (T3.setTop (mkF m 15 #[.val (.ref x), .val (.ref y), .unset] [.ref y])) := (c2.trans (st3 _ (Steps.refl _))).trans (by
      refine XS.ifNo X3.here hexec rfl (hb hbytes d11) rfl (i0_eq_f (by decide)) ?_
      refine XS.aloadN X3.here hexec rfl (hb hbytes d14) rfl rfl ?_
      exact Steps.refl _)
    obtain ⟨T5, X5, q5, st5⟩ := cself X3 hexec hown (wk W (.classLink "java/lang/String" 10 "java/lang/String")) (hy.mv X3.warmed.alike hh3).1 (g := (mkF m 15 #[.val (.ref x), .val (.ref y), .unset] [.ref y])) rfl (rest := []) rfl (hb hbytes d15)
    have hh5 := q5.trans hh3
    have c6 : Steps p.tables e below (s₁.setTop (entryFrame m #[.ref x, .ref y] 3)) (T5.setTop (mkF m 19 #[.val (.ref x), .val (.ref y), .val (.ref y)] [])) := (c4.trans (st5 _ (Steps.refl _))).trans (by
      refine XS.astoreN X5.here hexec rfl (hb hbytes d18) rfl rfl rfl ?_
      exact Steps.refl _)
    obtain ⟨T7, X7, q7, st7⟩ := X5.sget hexec hown (wk W (.fieldLink "java/lang/String" 38 "java/lang/String" "COMPACT_STRINGS" "Z")) s1 (fun _ _ h => by rw [hh5]; exact h) (g := (mkF m 19 #[.val (.ref x), .val (.ref y), .val (.ref y)] [])) rfl (hb hbytes d19)
    have hh7 := q7.trans hh5
    have c8 : Steps p.tables e below (s₁.setTop (entryFrame m #[.ref x, .ref y] 3)) (T7.setTop (mkF m 26 #[.val (.ref x), .val (.ref y), .val (.ref y)] [.ref x])) := (c6.trans (st7 _ (Steps.refl _))).trans (by
      refine XS.ifNo X7.here hexec rfl (hb hbytes d22) rfl (i0_eq_f hz) ?_
      refine XS.aloadN X7.here hexec rfl (hb hbytes d25) rfl rfl ?_
      exact Steps.refl _)
    obtain ⟨T9, X9, q9, st9⟩ := X7.hget hexec hown (wk W (.fieldLink "java/lang/String" 15 "java/lang/String" "coder" "B")) (hx.mv X7.warmed.alike hh7).2.2.1 (g := (mkF m 26 #[.val (.ref x), .val (.ref y), .val (.ref y)] [.ref x])) rfl (rest := []) rfl (hb hbytes d26)
    have hh9 := q9.trans hh7
    have c10 : Steps p.tables e below (s₁.setTop (entryFrame m #[.ref x, .ref y] 3)) (T9.setTop (mkF m 30 #[.val (.ref x), .val (.ref y), .val (.ref y)] [.ref y, .int cd])) := (c8.trans (st9 _ (Steps.refl _))).trans (by
      refine XS.aloadN X9.here hexec rfl (hb hbytes d29) rfl rfl ?_
      exact Steps.refl _)
    obtain ⟨T11, X11, q11, st11⟩ := X9.hget hexec hown (wk W (.fieldLink "java/lang/String" 15 "java/lang/String" "coder" "B")) (hy.mv X9.warmed.alike hh9).2.2.1 (g := (mkF m 30 #[.val (.ref x), .val (.ref y), .val (.ref y)] [.ref y, .int cd])) rfl (rest := [.int cd]) rfl (hb hbytes d30)
    have hh11 := q11.trans hh9
    have c12 : Steps p.tables e below (s₁.setTop (entryFrame m #[.ref x, .ref y] 3)) (T11.setTop (mkF m 33 #[.val (.ref x), .val (.ref y), .val (.ref y)] [.int cd', .int cd])) := c10.trans (st11 _ (Steps.refl _))
    by_cases hcd : cd = cd'
    · subst hcd
      have c13 : Steps p.tables e below (s₁.setTop (entryFrame m #[.ref x, .ref y] 3)) (T11.setTop (mkF m 37 #[.val (.ref x), .val (.ref y), .val (.ref y)] [.ref x])) := c12.trans (by
        refine XS.icmpNo X11.here hexec rfl (hb hbytes d33) rfl (ii_ne_f rfl) ?_
        refine XS.aloadN X11.here hexec rfl (hb hbytes d36) rfl rfl ?_
        exact Steps.refl _)
      obtain ⟨T14, X14, q14, st14⟩ := X11.hget hexec hown (wk W (.fieldLink "java/lang/String" 9 "java/lang/String" "value" "[B")) (hx.mv X11.warmed.alike hh11).2.1 (g := (mkF m 37 #[.val (.ref x), .val (.ref y), .val (.ref y)] [.ref x])) rfl (rest := []) rfl (hb hbytes d37)
      have hh14 := q14.trans hh11
      have c15 : Steps p.tables e below (s₁.setTop (entryFrame m #[.ref x, .ref y] 3)) (T14.setTop (mkF m 41 #[.val (.ref x), .val (.ref y), .val (.ref y)] [.ref y, .ref t])) := (c13.trans (st14 _ (Steps.refl _))).trans (by
        refine XS.aloadN X14.here hexec rfl (hb hbytes d40) rfl rfl ?_
        exact Steps.refl _)
      obtain ⟨T16, X16, q16, st16⟩ := X14.hget hexec hown (wk W (.fieldLink "java/lang/String" 9 "java/lang/String" "value" "[B")) (hy.mv X14.warmed.alike hh14).2.1 (g := (mkF m 41 #[.val (.ref x), .val (.ref y), .val (.ref y)] [.ref y, .ref t])) rfl (rest := [.ref t]) rfl (hb hbytes d41)
      have hh16 := q16.trans hh14
      have c17 : Steps p.tables e below (s₁.setTop (entryFrame m #[.ref x, .ref y] 3)) (T16.setTop (mkF m 44 #[.val (.ref x), .val (.ref y), .val (.ref y)] [.ref t', .ref t])) := c15.trans (st16 _ (Steps.refl _))
      obtain ⟨v18, T18, X18, E18, g18⟩ := X16.callS hexec (LEq.law l t V t' V') hown (wks W (staticW "java/lang/String" 541 LEq.yN)) (wk W LEq.tab) (W := 0) (Nat.le_of_ble_eq_true rfl) (Nat.le_of_ble_eq_true rfl) (Nat.le_refl _) (Nat.le_refl _) (g := (mkF m 44 #[.val (.ref x), .val (.ref y), .val (.ref y)] [.ref t', .ref t])) rfl (by rw [hml]; rfl) c17 (argsL := [.ref t, .ref t']) (rest := []) rfl rfl (by show 2 * 0 + 0 ≤ _; decide) (hb hbytes d44) (⟨rfl, hx.2.2.2.1.mv X16.warmed.alike hh16, hx.2.2.2.2.1.ty, hy.2.2.2.1.mv X16.warmed.alike hh16, hy.2.2.2.2.1.ty⟩)
      obtain ⟨v, rfl, q18, hv⟩ := E18
      have iff := Cod.eqv hx.2.2.2.2.1 hy.2.2.2.2.1 hx.2.2.2.2.2 hy.2.2.2.2.2
      rcases hv with ⟨rfl, he⟩ | ⟨rfl, he⟩
      · have c19 : Steps p.tables e below (s₁.setTop (entryFrame m #[.ref x, .ref y] 3)) (T18.setTop (mkF m 55 #[.val (.ref x), .val (.ref y), .val (.ref y)] [.int 1])) := Steps.trans g18 (by
          refine XS.ifNo X18.here hexec rfl (hb hbytes d47) rfl (i0_eq_f (by decide)) ?_
          refine iconstV X18.here hexec rfl 1 (hb hbytes d50) (by decide) ?_
          refine XS.goto X18.here hexec rfl (pc0 := 51) rfl (hb hbytes d51) (by decide) rfl ?_
          exact Steps.refl _)
        exact ⟨T18, some (.int 1), _, _, _, X18, rfl, rfl, rfl, (fun h => by cases h), ⟨1, rfl, q18.trans hh16, Or.inl ⟨rfl, iff.mp he⟩⟩, fun fs hl => c19.trans (X18.ireturnOut hexec hret rfl (Or.inr (Or.inl rfl)) (hb hbytes d55) hl)⟩
      · have c19 : Steps p.tables e below (s₁.setTop (entryFrame m #[.ref x, .ref y] 3)) (T18.setTop (mkF m 55 #[.val (.ref x), .val (.ref y), .val (.ref y)] [.int 0])) := Steps.trans g18 (by
          refine XS.ifYes X18.here hexec rfl (pc0 := 47) rfl (hb hbytes d47) rfl (i0_eq_t rfl) (by decide) rfl ?_
          refine iconstV X18.here hexec rfl 0 (hb hbytes d54) (by decide) ?_
          exact Steps.refl _)
        exact ⟨T18, some (.int 0), _, _, _, X18, rfl, rfl, rfl, (fun h => by cases h), ⟨0, rfl, q18.trans hh16, Or.inr ⟨rfl, fun q => he (iff.mpr q)⟩⟩, fun fs hl => c19.trans (X18.ireturnOut hexec hret rfl (Or.inr (Or.inl rfl)) (hb hbytes d55) hl)⟩
    · have c13 : Steps p.tables e below (s₁.setTop (entryFrame m #[.ref x, .ref y] 3)) (T11.setTop (mkF m 55 #[.val (.ref x), .val (.ref y), .val (.ref y)] [.int 0])) := c12.trans (by
        refine XS.icmpYes X11.here hexec rfl (pc0 := 33) rfl (hb hbytes d33) rfl (ii_ne_t hcd) (by decide) rfl ?_
        refine iconstV X11.here hexec rfl 0 (hb hbytes d54) (by decide) ?_
        exact Steps.refl _)
      exact ⟨T11, some (.int 0), _, _, _, X11, rfl, rfl, rfl, (fun h => by cases h), ⟨0, rfl, hh11, Or.inr ⟨rfl, Cod.dif hx.2.2.2.2.1 hy.2.2.2.2.1 hcd⟩⟩, fun fs hl => c13.trans (X11.ireturnOut hexec hret rfl (Or.inr (Or.inl rfl)) (hb hbytes d55) hl)⟩
theorem pays {l : Launch} {R : Room} {p : Program} {e : Env} {below : List Frame} {s : State} {sargs : Array Value} {len W : Nat} (x t : Addr) (V : Cell) (cd : Int32) (n : Nat) (f : Nat → Int32) (y t' : Addr) (V' : Cell) (cd' : Int32) (k : Nat) (g : Nat → Int32) (z : Int32) (htab : tab.before sargs s = true) (hfr : 2 ≤ R.frames) (hlo : W + 28 ≤ R.locals) :
    Back l R p e below s sargs yN len W (fun A₁ a₁ => A₁.cells + 0 ≤ R.cells ∧ A₁.slots + 0 ≤ R.slots ∧ P x t V cd n f y t' V' cd' k g z a₁ A₁.U) (fun A₁ _ v₁ B₁ => Says01 (SameT n f k g) v₁ A₁.U B₁.U ∧ B₁.locs = A₁.locs ++ [] ∧ B₁.cells = A₁.cells + 0 ∧ B₁.slots = A₁.slots + 0) :=
  (law l x t V cd n f y t' V' cd' k g z).pays htab hfr (by omega)
end SEq
end StrChars
namespace StrChars.Road
open Jvm Sem ClassFile Op Lib Jvm.Stand Jvm.Free Jvm.Free.XT
open Jvm.Lib.Cold (StaticIs)
/-- the words of String.isEmpty() -/
abbrev wordsEmp : List Jvm.Cond := [.code Emp.yN Emp.yB 1 (some .boolean), .initialized ST, .fieldLink ST 9 ST "value" "[B"]
theorem tabEmp_of {a : Array Value} {s : State} (h : ∀ w ∈ wordsEmp, w.before a s = true) : Emp.tab.before a s = true := unparts (wk h (.code Emp.yN Emp.yB 1 (some .boolean))) (wks h (.initialized Emp.yN.cls :: Emp.site))
theorem movedEmp {Z s : State} {a0 args : Array Value} (hZ : Z.Warmed39 s.vm) (hw : ∀ d ∈ wordsEmp, d.before a0 Z = true) : ∀ d ∈ wordsEmp, d.before args s = true := fun d hd => by
  have t : ∀ d ∈ wordsEmp, (d.onTables && d.keepsFace) = true := by decide +kernel
  exact RoadKit.mv hZ (hw d hd) (t d hd)
/-- the words of String.equals(Object) -/
abbrev wordsEq : List Jvm.Cond := [.code SEq.yN SEq.yB 3 (some .boolean), .initialized ST, .classLink ST 10 ST, .fieldLink ST 38 ST "COMPACT_STRINGS" "Z", .fieldLink ST 15 ST "coder" "B", .fieldLink ST 9 ST "value" "[B", .methodLink ST 541 LEq.yN, .static LEq.yN, .code LEq.yN LEq.yB 3 (some .boolean), .initialized "java/lang/StringLatin1"]
theorem tabEq_of {a : Array Value} {s : State} (h : ∀ w ∈ wordsEq, w.before a s = true) : SEq.tab.before a s = true := by
  have hl : LEq.tab.before a s = true := unparts (wk h (.code LEq.yN LEq.yB 3 (some .boolean))) (wks h (.initialized LEq.yN.cls :: LEq.site))
  have q := consq hl h
  exact unparts (wk q (.code SEq.yN SEq.yB 3 (some .boolean))) (wks q (.initialized SEq.yN.cls :: SEq.site))
theorem movedEq {Z s : State} {a0 args : Array Value} (hZ : Z.Warmed39 s.vm) (hw : ∀ d ∈ wordsEq, d.before a0 Z = true) : ∀ d ∈ wordsEq, d.before args s = true := fun d hd => by
  have t : ∀ d ∈ wordsEq, (d.onTables && d.keepsFace) = true := by decide +kernel
  exact RoadKit.mv hZ (hw d hd) (t d hd)
/-- the road's facts of a String, as the laws ask it -/
theorem txt_of {Z U : State} {a0 : Array Value} {kI : Nat} (wi : (Jvm.Cond.instantiable ST kI).before a0 Z = true) (al : Z.vm.Alike U.vm) {x t : Addr} {kb : ClassId} {cs : List Int32} {cd N2 : Int32} {vs : List Value} (E : RoadKit.Exa Z U.heap x ST) (V : RoadKit.Fld Z U.heap x ST "value" "[B" (.ref t)) (C : RoadKit.Fld Z U.heap x ST "coder" "B" (.int cd)) (K : RoadKit.Arv Z U.heap t kb .byte N2 vs (.int 0)) (hc : CodA cs cd N2 vs) (hb : ∀ c ∈ cs, ¬ c < 0 ∧ ¬ (65535 : Int32) < c) (l2 : cs.length ≤ 4000) :
    ∃ A, Txt x t A cd cs.length (fun j => cs.getD j 0) U := by
  obtain ⟨A, K1, K2, K3, K4, K5, K6⟩ := K
  have hcod := hc.cod (by omega) K3 K5
  obtain ⟨D, fV, fC, hB, F1, F2, g1, g2, -, -⟩ := strObj wi al E V C
  exact ⟨A, ⟨_, hB.2.2.1, D, hB.1, rfl, by cases q : D.vm <;> first | rfl | exact absurd q (hB.2.1.2 _)⟩, Has.of hB F1 g1, Has.of hB F2 g2, ⟨K1.1, State.isArrayOf_alike al K1.2.1, K1.2.2, by rcases hcod with ⟨-, q, -⟩ | ⟨-, q, -⟩ <;> omega⟩, hcod, fun j hj => by
    have e : cs.getD j 0 = cs[j] := by simp [List.getD_eq_getElem?_getD, hj]
    show ¬ cs.getD j 0 < 0 ∧ ¬ 65535 < cs.getD j 0
    rw [e]; exact hb _ (List.getElem_mem _)⟩
theorem same_list (cs ds : List Int32) : SameT cs.length (fun j => cs.getD j 0) ds.length (fun j => ds.getD j 0) ↔ cs = ds := by
  constructor
  · rintro ⟨e, q⟩
    refine List.ext_getElem e fun j h1 h2 => ?_
    have := q j h1
    simpa [List.getD_eq_getElem?_getD, h1, h2] using this
  · rintro rfl
    exact ⟨rfl, fun _ _ => rfl⟩
/-- **isEmpty() OF SUCH A STRING** -/
theorem empW {p : Program} {l : Launch} {e : Env} {R : Room} {s : State} {args : Array Value} {below : List Frame} {len W : Nat} {Z : State} {a0 : Array Value} {h : Heap} (hZ : Z.Warmed39 s.vm) (hw : ∀ d ∈ wordsEmp, d.before a0 Z = true) {kI : Nat} (wi : (Jvm.Cond.instantiable ST kI).before a0 Z = true)
    {x t : Addr} {kb : ClassId} {cs : List Int32} {cd N2 : Int32} {vs : List Value} (E : RoadKit.Exa Z h x ST) (V : RoadKit.Fld Z h x ST "value" "[B" (.ref t)) (C : RoadKit.Fld Z h x ST "coder" "B" (.int cd)) (K : RoadKit.Arv Z h t kb .byte N2 vs (.int 0)) (hc : CodA cs cd N2 vs) (hb : ∀ c ∈ cs, ¬ c < 0 ∧ ¬ (65535 : Int32) < c) (l2 : cs.length ≤ 4000) (hfr : 1 ≤ R.frames) (hlo : W + 12 ≤ R.locals) :
    Back l R p e below s args (⟨"java/lang/String", "isEmpty", "()Z"⟩ : MethodName) len W (fun P a => a = #[.ref x] ∧ P.U.heap = h ∧ P.cells + 0 ≤ R.cells ∧ P.slots + 0 ≤ R.slots)
      (fun P _ v B => ∃ L, (v = some (.int (if cs.length = 0 then 1 else 0)) ∧ L = [] ∧ B.U.heap = h) ∧ B.locs = P.locs ++ L ∧ B.cells = P.cells + 0 ∧ B.slots = P.slots + 0) := by
  intro m meth c P g ig mk a X hg hsize hdg hW hn hp'
  obtain ⟨rfl, rfl, r1, r2⟩ := hp'
  have al : Z.vm.Alike P.U.vm := hZ.alike.trans X.warmed.alike
  obtain ⟨A, hx⟩ := txt_of wi al E V C K hc hb l2
  obtain ⟨v, B, X', ⟨⟨hv, hh⟩, hl, hk, hs⟩, st⟩ := Emp.pays x t A cd cs.length (fun j => cs.getD j 0) (tabEmp_of (movedEmp hZ hw)) hfr hlo m meth c P g ig mk _ X hg hsize hdg hW hn ⟨r1, r2, rfl, hx⟩
  exact ⟨v, B, X', ⟨[], ⟨hv, rfl, hh⟩, hl, hk, hs⟩, st⟩
/-- **equals(Object) OF TWO SUCH STRINGS**: 1 just where the chars are the same -/
theorem eqW {p : Program} {l : Launch} {e : Env} {R : Room} {s : State} {args : Array Value} {below : List Frame} {len W : Nat} {Z : State} {a0 : Array Value} {h : Heap} (hZ : Z.Warmed39 s.vm) (hw : ∀ d ∈ wordsEq, d.before a0 Z = true) {kI : Nat} (wi : (Jvm.Cond.instantiable ST kI).before a0 Z = true)
    {x t : Addr} {kb : ClassId} {cs : List Int32} {cd N2 : Int32} {vs : List Value} (E : RoadKit.Exa Z h x ST) (V : RoadKit.Fld Z h x ST "value" "[B" (.ref t)) (C : RoadKit.Fld Z h x ST "coder" "B" (.int cd)) (K : RoadKit.Arv Z h t kb .byte N2 vs (.int 0)) (hc : CodA cs cd N2 vs) (hb : ∀ c ∈ cs, ¬ c < 0 ∧ ¬ (65535 : Int32) < c) (l2 : cs.length ≤ 4000)
    {y t' : Addr} {kb' : ClassId} {ds : List Int32} {cd' N2' : Int32} {vs' : List Value} (E' : RoadKit.Exa Z h y ST) (V' : RoadKit.Fld Z h y ST "value" "[B" (.ref t')) (C' : RoadKit.Fld Z h y ST "coder" "B" (.int cd')) (K' : RoadKit.Arv Z h t' kb' .byte N2' vs' (.int 0)) (hc' : CodA ds cd' N2' vs') (hb' : ∀ c ∈ ds, ¬ c < 0 ∧ ¬ (65535 : Int32) < c) (l2' : ds.length ≤ 4000)
    {z : Int32} (S : RoadKit.Sta Z h ST "COMPACT_STRINGS" "Z" (.int z)) (hz : ¬ z = 0) (hfr : 2 ≤ R.frames) (hlo : W + 28 ≤ R.locals) :
    Back l R p e below s args (⟨"java/lang/String", "equals", "(Ljava/lang/Object;)Z"⟩ : MethodName) len W (fun P a => a = #[.ref x, .ref y] ∧ P.U.heap = h ∧ P.cells + 0 ≤ R.cells ∧ P.slots + 0 ≤ R.slots)
      (fun P _ v B => ∃ L, (((v = some (.int 1) ∧ cs = ds) ∨ (v = some (.int 0) ∧ ¬ cs = ds)) ∧ L = [] ∧ B.U.heap = h) ∧ B.locs = P.locs ++ L ∧ B.cells = P.cells + 0 ∧ B.slots = P.slots + 0) := by
  intro m meth c P g ig mk a X hg hsize hdg hW hn hp'
  obtain ⟨rfl, rfl, r1, r2⟩ := hp'
  have al : Z.vm.Alike P.U.vm := hZ.alike.trans X.warmed.alike
  obtain ⟨A, hx⟩ := txt_of wi al E V C K hc hb l2
  obtain ⟨A', hy⟩ := txt_of wi al E' V' C' K' hc' hb' l2'
  obtain ⟨v, B, X', ⟨⟨w, hv, hh, hq⟩, hl, hk, hs⟩, st⟩ := SEq.pays x t A cd cs.length (fun j => cs.getD j 0) y t' A' cd' ds.length (fun j => ds.getD j 0) z (tabEq_of (movedEq hZ hw)) hfr hlo m meth c P g ig mk _ X hg hsize hdg hW hn ⟨r1, r2, rfl, hx, hy, sta_is al S, hz⟩
  refine ⟨v, B, X', ⟨[], ⟨?_, rfl, hh⟩, hl, hk, hs⟩, st⟩
  rcases hq with ⟨rfl, q⟩ | ⟨rfl, q⟩
  · exact Or.inl ⟨hv, (same_list cs ds).mp q⟩
  · exact Or.inr ⟨hv, fun e => q ((same_list cs ds).mpr e)⟩
end StrChars.Road
end Jvm.Pilot.@@N@@
namespace Jvm.Pilot.@@N@@
open Jvm Jvm.ClassFile Sem Op Lib Jvm.Free Jvm.Stand Jvm.LawKit Jvm.RoadKit Bundle Jvm.Pilot.@@N@@.Jvm.D
/-- a String at a that spells cs, each sign 0 to 255 -/
def own_Str (Z : State) (h : Heap) (a : Addr) (cs : List Int32) : Prop := ∃ (t : Addr) (kb : ClassId) (N2 : Int32) (vs : List Value), Exa Z h a "java/lang/String" ∧ Fld Z h a "java/lang/String" "value" "[B" (.ref t) ∧ Fld Z h a "java/lang/String" "coder" "B" (.int 0) ∧ Arv Z h t kb .byte N2 vs (.int 0) ∧ StrChars.Road.CodA cs 0 N2 vs ∧ (∀ c ∈ cs, ¬ c < 0 ∧ ¬ (65535 : Int32) < c) ∧ cs.length ≤ 4000
theorem own_Str.ext {Z : State} {h h' : Heap} {a : Addr} {cs : List Int32} (F : own_Str Z h a cs) (E : Ext h h') : own_Str Z h' a cs := by
  obtain ⟨t, kb, N2, vs, h1, h2, h3, h4, r⟩ := F
  exact ⟨t, kb, N2, vs, h1.ext E, h2.ext E, h3.ext E, h4.ext E, r⟩
theorem own_Str.exa {Z : State} {h : Heap} {a : Addr} {cs : List Int32} (F : own_Str Z h a cs) : Exa Z h a "java/lang/String" := F.choose_spec.choose_spec.choose_spec.choose_spec.1
/-- new String, then its constructor: to the older heap it is an extension -/
theorem own_ext2 {h h1 h2 : Heap} {x : Addr} (E : Ext h h1) (K : Keep h1 h2 [x]) (hx : h.size ≤ x) : Ext h h2 :=
  ⟨Nat.le_trans E.1 K.1, fun y c q => K.2.1 y c (E.2 y c q) fun hm => by
    cases List.mem_singleton.mp hm
    exact absurd (Array.getElem?_eq_some_iff.mp q).1 (Nat.not_lt.mpr hx)⟩
theorem own_extK {h h1 : Heap} (K : Keep h h1 []) : Ext h h1 := ⟨K.1, fun y c q => K.2.1 y c q List.not_mem_nil⟩
theorem own_ext_trans {h h1 h2 : Heap} (E : Ext h h1) (F : Ext h1 h2) : Ext h h2 := ⟨Nat.le_trans E.1 F.1, fun y c q => F.2 y c (E.2 y c q)⟩
theorem own_ext_refl (h : Heap) : Ext h h := ⟨Nat.le_refl _, fun _ _ q => q⟩
/-- a String of the library's two laws -/
theorem own_Str.of {Z : State} {h : Heap} {a t : Addr} {kb : ClassId} {N2 : Int32} {vs : List Value} {cs : List Int32} (h1 : Exa Z h a "java/lang/String") (h2 : Fld Z h a "java/lang/String" "value" "[B" (.ref t)) (h3 : Fld Z h a "java/lang/String" "coder" "B" (.int 0)) (h4 : Arv Z h t kb .byte N2 vs (.int 0)) (e1 : N2 = Int32.ofNat cs.length) (e2 : vs = cs.map fun c => Value.int c.toInt8.toInt32) (hp : ∀ c ∈ cs, ¬ c < 0 ∧ ¬ (255 : Int32) < c) (hl : cs.length ≤ 4000) : own_Str Z h a cs :=
  ⟨t, kb, N2, vs, h1, h2, h3, h4, Or.inl ⟨rfl, e1, e2, fun c hc => (hp c hc).2⟩, fun c hc => ⟨(hp c hc).1, fun q => (hp c hc).2 (by
    rw [Int32.lt_iff_toInt_lt] at *
    have a1 : (255 : Int32).toInt = 255 := by decide
    have a2 : (65535 : Int32).toInt = 65535 := by decide
    omega)⟩, hl⟩
end Jvm.Pilot.@@N@@
namespace Jvm.Pilot.@@N@@
open Jvm Jvm.ClassFile Sem Op Lib Jvm.Free Jvm.Stand Jvm.LawKit Jvm.RoadKit Bundle Jvm.Pilot.@@N@@.Jvm.D
/-- an array is no object of an ordinary class -/
theorem own_ne_arr {Z : State} {h : Heap} {t x : Addr} {kb : ClassId} {ty : FieldType} {N : Int32} {vs : List Value} {d : Value} {C : String} {a0 : Array Value} {n : Nat} (A : Arv Z h t kb ty N vs d) (E : Exa Z h x C) (wi : (Jvm.Cond.instantiable C n).before a0 Z = true) : t ≠ x := by
  rintro rfl
  obtain ⟨c, ⟨a1, ⟨-, k, hk, comp, hkd⟩, -⟩, -⟩ := A
  obtain ⟨cell, k', e1, e2, e3, -, -⟩ := E
  obtain ⟨c', k'', f1, f2, f3, -, -, -⟩ := Cond.instantiable_spec wi
  cases a1.symm.trans e1
  cases e2.symm.trans f1
  cases hk.symm.trans e3
  cases f2.symm.trans e3
  rw [hkd] at f3
  cases f3
/-- a String over a call that writes one other object -/
theorem own_Str.keep {Z : State} {h h' : Heap} {a x : Addr} {cs : List Int32} {C : String} {a0 : Array Value} {n : Nat} (F : own_Str Z h a cs) (K : Keep h h' [x]) (E : Exa Z h x C) (hC : C ≠ "java/lang/String") (wi : (Jvm.Cond.instantiable C n).before a0 Z = true) : own_Str Z h' a cs := by
  obtain ⟨t, kb, N2, vs, h1, h2, h3, h4, r⟩ := F
  have n1 : a ∉ [x] := by simp only [List.mem_cons, List.not_mem_nil, or_false]; exact ne_exa h1 E (Ne.symm hC)
  have n2 : t ∉ [x] := by simp only [List.mem_cons, List.not_mem_nil, or_false]; exact own_ne_arr h4 E wi
  exact ⟨t, kb, N2, vs, h1.keep K, h2.keep K n1, h3.keep K n1, h4.keep K n2, r⟩
/-- its bytes -/
theorem own_Str.op {Z : State} {h : Heap} {a : Addr} {cs : List Int32} (F : own_Str Z h a cs) : ∃ (t : Addr) (kb : ClassId), Exa Z h a "java/lang/String" ∧ Fld Z h a "java/lang/String" "value" "[B" (.ref t) ∧ Fld Z h a "java/lang/String" "coder" "B" (.int 0) ∧ Arv Z h t kb .byte (Int32.ofNat cs.length) (cs.map fun c => Value.int c.toInt8.toInt32) (.int 0) := by
  obtain ⟨t, kb, N2, vs, h1, h2, h3, h4, hc, -, -⟩ := F
  rcases hc with ⟨-, e1, e2, -⟩ | ⟨q, -⟩
  · subst e1 e2
    exact ⟨t, kb, h1, h2, h3, h4⟩
  · exact absurd q (by decide)
theorem own_lenv {cs : List Int32} {z : Int32} {v : Option Value} (hz : Int32.ofNat cs.length = z) (h : v = some (.int (Int32.ofNat cs.length))) : v = some (.int z) := by rw [h, hz]
theorem own_empv {cs : List Int32} {v : Option Value} (hn : ¬ cs.length = 0) (h : v = some (.int (if cs.length = 0 then 1 else 0))) : v = some (.int (0 : Int32)) := by rw [h, if_neg hn]
/-- a String is no object of an ordinary class K beside String and Object -/
theorem own_no {Z : State} {a0 : Array Value} {K : String} {n : Nat} (w1 : (Jvm.Cond.superclass "java/lang/String" "java/lang/Object").before a0 Z = true) (w2 : (Jvm.Cond.noSuperclass "java/lang/Object").before a0 Z = true) (wi : (Jvm.Cond.instantiable K n).before a0 Z = true) (hn1 : "java/lang/Object" ≠ K) (hn2 : "java/lang/String" ≠ K) :
    ∃ c t, Z.vm.findClass "java/lang/String" = some c ∧ Z.vm.findClass K = some t ∧ Z.vm.assignable c t = false := by
  obtain ⟨t, k', g0, g2, g5, g7, -, -⟩ := Cond.instantiable_spec wi
  have g8 : k'.isInterface = false := (Bool.or_eq_false_iff.mp g7).1
  obtain ⟨o, ko, h1, h2, h3, -, -⟩ := Cond.noSuperclass_spec w2
  have neo := ids_ne h1 g0 hn1
  have n0 : ∀ fuel, Z.vm.isSubclassAux fuel o t = false := fun fuel => by
    cases fuel with
    | zero => rfl
    | succ f => simp [Vm.isSubclassAux, neo, h2, h3]
  obtain ⟨c, c0⟩ := found_sup w1
  obtain ⟨p, k, kp, q1, q2, q3, q4, q5, -, q7⟩ := Cond.superclass_spec c0 w1
  cases h1.symm.trans q1
  have nec := ids_ne c0 g0 hn2
  have n1 : ∀ fuel, Z.vm.isSubclassAux fuel c t = false := fun fuel => by
    cases fuel with
    | zero => rfl
    | succ f => simp [Vm.isSubclassAux, nec, q2, q4, n0]
  refine ⟨c, t, c0, g0, ?_⟩
  show Z.vm.assignableAux (255 + 1) c t = false
  simp [Vm.assignableAux, nec, q2, g2, q5, g5, g8, Vm.isSubclass, n1]
end Jvm.Pilot.@@N@@
namespace Jvm.Pilot.@@N@@
open Jvm Jvm.ClassFile Sem Op Lib Jvm.Free Jvm.Stand Jvm.LawKit Jvm.RoadKit Bundle Jvm.Pilot.@@N@@.Jvm.D
def own_eq (cs ds : List Int32) : Int32 := if cs = ds then 1 else 0
theorem own_eqv {cs ds : List Int32} {v : Option Value} (h : (v = some (.int 1) ∧ cs = ds) ∨ (v = some (.int 0) ∧ ¬ cs = ds)) : v = some (.int (own_eq cs ds)) := by
  rcases h with ⟨rfl, q⟩ | ⟨rfl, q⟩
  · rw [own_eq, if_pos q]
  · rw [own_eq, if_neg q]
theorem own_wS {Z : State} {a0 : Array Value} (hw : ∀ d ∈ tables_1, d.before a0 Z = true) : ∀ a ∈ Bundle.stringAtoms, a.before a0 Z = true := by
  intro a ha
  simp only [Bundle.stringAtoms, List.mem_cons, List.not_mem_nil, or_false] at ha
  rcases ha with rfl | rfl | rfl | rfl | rfl | rfl | rfl
  · exact (hw _ (List.mem_of_getElem? (i := 12) rfl))
  · exact (hw _ (List.mem_of_getElem? (i := 11) rfl))
  · exact (hw _ (List.mem_of_getElem? (i := 29) rfl))
  · exact (hw _ (List.mem_of_getElem? (i := 39) rfl))
  · exact (hw _ (List.mem_of_getElem? (i := 37) rfl))
  · exact (hw _ (List.mem_of_getElem? (i := 45) rfl))
  · exact (hw _ (List.mem_of_getElem? (i := 46) rfl))
theorem own_wEq {Z : State} {a0 : Array Value} (hw : ∀ d ∈ tables_1, d.before a0 Z = true) : ∀ d ∈ StrChars.Road.wordsEq, d.before a0 Z = true := StrChars.Road.consq (hw _ (List.mem_of_getElem? (i := 102) rfl)) (StrChars.Road.consq (hw _ (List.mem_of_getElem? (i := 12) rfl)) (StrChars.Road.consq (hw _ (List.mem_of_getElem? (i := 103) rfl)) (StrChars.Road.consq (hw _ (List.mem_of_getElem? (i := 24) rfl)) (StrChars.Road.consq (hw _ (List.mem_of_getElem? (i := 36) rfl)) (StrChars.Road.consq (hw _ (List.mem_of_getElem? (i := 38) rfl)) (StrChars.Road.consq (hw _ (List.mem_of_getElem? (i := 104) rfl)) (StrChars.Road.consq (hw _ (List.mem_of_getElem? (i := 105) rfl)) (StrChars.Road.consq (hw _ (List.mem_of_getElem? (i := 107) rfl)) (StrChars.Road.consq (hw _ (List.mem_of_getElem? (i := 106) rfl)) (fun w hw => nomatch hw))))))))))
theorem own_wV {Z : State} {a0 : Array Value} (hw : ∀ d ∈ tables_1, d.before a0 Z = true) : ∀ d ∈ StrChars.Road.words, d.before a0 Z = true := StrChars.Road.consq (hw _ (List.mem_of_getElem? (i := 16) rfl)) (StrChars.Road.consq (hw _ (List.mem_of_getElem? (i := 12) rfl)) (StrChars.Road.consq (hw _ (List.mem_of_getElem? (i := 17) rfl)) (StrChars.Road.consq (hw _ (List.mem_of_getElem? (i := 18) rfl)) (StrChars.Road.consq (hw _ (List.mem_of_getElem? (i := 20) rfl)) (StrChars.Road.consq (hw _ (List.mem_of_getElem? (i := 24) rfl)) (StrChars.Road.consq (hw _ (List.mem_of_getElem? (i := 39) rfl)) (StrChars.Road.consq (hw _ (List.mem_of_getElem? (i := 38) rfl)) (StrChars.Road.consq (hw _ (List.mem_of_getElem? (i := 37) rfl)) (StrChars.Road.consq (hw _ (List.mem_of_getElem? (i := 36) rfl)) (StrChars.Road.consq (hw _ (List.mem_of_getElem? (i := 21) rfl)) (StrChars.Road.consq (hw _ (List.mem_of_getElem? (i := 22) rfl)) (StrChars.Road.consq (hw _ (List.mem_of_getElem? (i := 23) rfl)) (StrChars.Road.consq (hw _ (List.mem_of_getElem? (i := 25) rfl)) (StrChars.Road.consq (hw _ (List.mem_of_getElem? (i := 26) rfl)) (StrChars.Road.consq (hw _ (List.mem_of_getElem? (i := 33) rfl)) (StrChars.Road.consq (hw _ (List.mem_of_getElem? (i := 34) rfl)) (StrChars.Road.consq (hw _ (List.mem_of_getElem? (i := 28) rfl)) (StrChars.Road.consq (hw _ (List.mem_of_getElem? (i := 27) rfl)) (StrChars.Road.consq (hw _ (List.mem_of_getElem? (i := 29) rfl)) (StrChars.Road.consq (hw _ (List.mem_of_getElem? (i := 30) rfl)) (StrChars.Road.consq (hw _ (List.mem_of_getElem? (i := 31) rfl)) (StrChars.Road.consq (hw _ (List.mem_of_getElem? (i := 32) rfl)) (StrChars.Road.consq (hw _ (List.mem_of_getElem? (i := 35) rfl)) (fun w hw => nomatch hw))))))))))))))))))))))))
theorem own_wLen {Z : State} {a0 : Array Value} (hw : ∀ d ∈ tables_1, d.before a0 Z = true) : ∀ d ∈ StrChars.Road.wordsLen, d.before a0 Z = true := StrChars.Road.consq (hw _ (List.mem_of_getElem? (i := 60) rfl)) (StrChars.Road.consq (hw _ (List.mem_of_getElem? (i := 12) rfl)) (StrChars.Road.consq (hw _ (List.mem_of_getElem? (i := 38) rfl)) (StrChars.Road.consq (hw _ (List.mem_of_getElem? (i := 24) rfl)) (StrChars.Road.consq (hw _ (List.mem_of_getElem? (i := 36) rfl)) (StrChars.Road.consq (hw _ (List.mem_of_getElem? (i := 65) rfl)) (StrChars.Road.consq (hw _ (List.mem_of_getElem? (i := 61) rfl)) (StrChars.Road.consq (hw _ (List.mem_of_getElem? (i := 62) rfl)) (StrChars.Road.consq (hw _ (List.mem_of_getElem? (i := 64) rfl)) (StrChars.Road.consq (hw _ (List.mem_of_getElem? (i := 63) rfl)) (fun w hw => nomatch hw))))))))))
theorem own_wEmp {Z : State} {a0 : Array Value} (hw : ∀ d ∈ tables_1, d.before a0 Z = true) : ∀ d ∈ StrChars.Road.wordsEmp, d.before a0 Z = true := StrChars.Road.consq (hw _ (List.mem_of_getElem? (i := 88) rfl)) (StrChars.Road.consq (hw _ (List.mem_of_getElem? (i := 12) rfl)) (StrChars.Road.consq (hw _ (List.mem_of_getElem? (i := 38) rfl)) (fun w hw => nomatch hw)))
/-- a printable sign -/
abbrev own_pr (y : Int32) : Prop := 32 ≤ y.toBitVec.toNat ∧ y.toBitVec.toNat ≤ 126
def own_ok (cs : List Int32) : Prop := (∃ c0, cs = [c0] ∧ own_pr c0) ∨ (∃ c0 c1, cs = [c0, c1] ∧ own_pr c0 ∧ own_pr c1) ∨ (∃ c0 c1 c2, cs = [c0, c1, c2] ∧ own_pr c0 ∧ own_pr c1 ∧ own_pr c2)
theorem own_n (y : Int32) (h : y.toBitVec.toNat < 256) : y.toUInt32.toUInt16.toUInt32.toInt32 = y := by
  apply Int32.toBitVec_inj.mp
  apply BitVec.eq_of_toNat_eq
  show ((y.toBitVec.setWidth 16).setWidth 32).toNat = y.toBitVec.toNat
  simp only [BitVec.toNat_setWidth]
  omega
theorem own_r (y : Int32) (h : y.toBitVec.toNat < 256) : ¬ y < 0 ∧ ¬ (255 : Int32) < y := by
  have e : y.toInt = y.toBitVec.toNat := by
    show y.toBitVec.toInt = _
    rw [BitVec.toInt_eq_toNat_cond, if_pos (by omega)]
  simp only [Int32.lt_iff_toInt_lt, show (255 : Int32).toInt = 255 from by decide, show (0 : Int32).toInt = 0 from by decide]
  omega
theorem own_mI (x : Int32) : (x &&& (255 : Int32)).toBitVec.toNat < 256 := by
  show (x.toBitVec &&& (255 : Int32).toBitVec).toNat < 256
  rw [BitVec.toNat_and, show (255 : Int32).toBitVec.toNat = 2 ^ 8 - 1 from by decide, Nat.and_two_pow_sub_one_eq_mod]
  omega
theorem own_of (y : Int32) : y = Int32.ofNat y.toBitVec.toNat := by
  apply Int32.toBitVec_inj.mp
  apply BitVec.eq_of_toNat_eq
  show _ = (BitVec.ofNat 32 _).toNat
  rw [BitVec.toNat_ofNat, Nat.mod_eq_of_lt y.toBitVec.isLt]
theorem own_cc {y : Int32} (h : own_pr y) : y.toUInt32.toUInt16.toUInt32.toInt32 = y := own_n y (by have := h.2; omega)
theorem own_bc {y : Int32} (h : own_pr y) : ¬ y.toUInt32.toUInt16.toUInt32.toInt32 < 0 ∧ ¬ (255 : Int32) < y.toUInt32.toUInt16.toUInt32.toInt32 := by
  rw [own_cc h]
  exact own_r y (by have := h.2; omega)
theorem own_cpB : ∀ n : Fin 127, 32 ≤ n.val → ¬ ((Int32.ofNat n.val).toInt8.toInt32 &&& (255 : Int32)) < (32 : Int32) ∧ ¬ (126 : Int32) < ((Int32.ofNat n.val).toInt8.toInt32 &&& (255 : Int32)) := by decide +kernel
theorem own_cpA {y : Int32} (h : own_pr y) : ¬ (y.toInt8.toInt32 &&& (255 : Int32)) < (32 : Int32) ∧ ¬ (126 : Int32) < (y.toInt8.toInt32 &&& (255 : Int32)) := by
  have q := own_cpB ⟨y.toBitVec.toNat, by have := h.2; omega⟩ h.1
  rw [← own_of y] at q
  exact q
def fpc_0 (p1 : Int32) : Int32 := ((p1 &&& (255 : Int32)) - ((p1 &&& (255 : Int32)) / (95 : Int32)) * (95 : Int32))
def fpc_1 (p1 : Int32) : Int32 := ((32 : Int32) + (fpc_0 p1)).toUInt32.toUInt16.toUInt32.toInt32
def fpc (p1 : Int32) : Int32 := (fpc_1 p1).toUInt32.toUInt16.toUInt32.toInt32
def fpkN (p1 : Int32) (p2 : Int32) : Int32 := p1
def fpkR (p1 : Int32) (p2 : Int32) : Int32 := p1
def fisl (cz : Int32) : Int32 := (1 : Int32)
def fcp10 (c0 : Int32) (cz : Int32) : Int32 := (c0.toInt8.toInt32 &&& (255 : Int32))
def fcp20 (c0 : Int32) (c1 : Int32) (cz : Int32) : Int32 := (c0.toInt8.toInt32 &&& (255 : Int32))
def fcp21 (c0 : Int32) (c1 : Int32) (cz : Int32) : Int32 := (c1.toInt8.toInt32 &&& (255 : Int32))
def fcp30 (c0 : Int32) (c1 : Int32) (c2 : Int32) (cz : Int32) : Int32 := (c0.toInt8.toInt32 &&& (255 : Int32))
def fcp31 (c0 : Int32) (c1 : Int32) (c2 : Int32) (cz : Int32) : Int32 := (c1.toInt8.toInt32 &&& (255 : Int32))
def fcp32 (c0 : Int32) (c1 : Int32) (c2 : Int32) (cz : Int32) : Int32 := (c2.toInt8.toInt32 &&& (255 : Int32))
def fmk_x0 (p1 : Int32) (p2 : Int32) (p3 : Int32) (p4 : Int32) (cz : Int32) : List Int32 := (if p1 = (1 : Int32) then ([p2.toUInt32.toUInt16.toUInt32.toInt32] : List Int32) else (if p1 = (2 : Int32) then ([p2.toUInt32.toUInt16.toUInt32.toInt32, p3.toUInt32.toUInt16.toUInt32.toInt32] : List Int32) else ([p2.toUInt32.toUInt16.toUInt32.toInt32, p3.toUInt32.toUInt16.toUInt32.toInt32, p4.toUInt32.toUInt16.toUInt32.toInt32] : List Int32)))
def feqk_0 (cs : List Int32) (ds : List Int32) (cz : Int32) : Int32 := (if (own_eq cs ds) = (0 : Int32) then (0 : Int32) else (1 : Int32))
def feqk (cs : List Int32) (ds : List Int32) (cz : Int32) : Int32 := ((feqk_0 cs ds cz) &&& 1)
def feqn  : Int32 := (0 : Int32)
def feqs  : Int32 := (0 : Int32)
def f0_0 (p1 : Int32) (p2 : Int32) (p3 : Int32) (cz : Int32) : Int32 := ((p3 &&& (3 : Int32)) - ((p3 &&& (3 : Int32)) / (3 : Int32)) * (3 : Int32))
def f0_1 (p1 : Int32) (p2 : Int32) (p3 : Int32) (cz : Int32) : Int32 := (((XT.ushr p3 (2 : Int32)) &&& (3 : Int32)) - (((XT.ushr p3 (2 : Int32)) &&& (3 : Int32)) / (3 : Int32)) * (3 : Int32))
def f0_2 (p1 : Int32) (p2 : Int32) (p3 : Int32) (cz : Int32) : Int32 := (if ((XT.ushr p3 (4 : Int32)) &&& (1 : Int32)) = (0 : Int32) then (fpc p2) else (fpc p1))
def f0_3 (p1 : Int32) (p2 : Int32) (p3 : Int32) (cz : Int32) : Int32 := (if ((XT.ushr p3 (5 : Int32)) &&& (1 : Int32)) = (0 : Int32) then (fpc (XT.ushr p2 (8 : Int32))) else (fpc (XT.ushr p1 (8 : Int32))))
def f0_4 (p1 : Int32) (p2 : Int32) (p3 : Int32) (cz : Int32) : Int32 := (if ((XT.ushr p3 (6 : Int32)) &&& (1 : Int32)) = (0 : Int32) then (fpc (XT.ushr p2 (16 : Int32))) else (fpc (XT.ushr p1 (16 : Int32))))
def f0_5 (p1 : Int32) (p2 : Int32) (p3 : Int32) (cz : Int32) : Int32 := (if (fpc (XT.ushr p1 (16 : Int32))) = (f0_4 p1 p2 p3 cz) then (1 : Int32) else (0 : Int32))
def f0_6 (p1 : Int32) (p2 : Int32) (p3 : Int32) (cz : Int32) : Int32 := (if ((1 : Int32) + (f0_0 p1 p2 p3 cz)) < (3 : Int32) then (1 : Int32) else (f0_5 p1 p2 p3 cz))
def f0_7 (p1 : Int32) (p2 : Int32) (p3 : Int32) (cz : Int32) : Int32 := (if (fpc (XT.ushr p1 (8 : Int32))) = (f0_3 p1 p2 p3 cz) then (f0_6 p1 p2 p3 cz) else (0 : Int32))
def f0_8 (p1 : Int32) (p2 : Int32) (p3 : Int32) (cz : Int32) : Int32 := (if ((1 : Int32) + (f0_0 p1 p2 p3 cz)) < (2 : Int32) then (f0_6 p1 p2 p3 cz) else (f0_7 p1 p2 p3 cz))
def f0_9 (p1 : Int32) (p2 : Int32) (p3 : Int32) (cz : Int32) : Int32 := (if (fpc p1) = (f0_2 p1 p2 p3 cz) then (f0_8 p1 p2 p3 cz) else (0 : Int32))
def f0_10 (p1 : Int32) (p2 : Int32) (p3 : Int32) (cz : Int32) : Int32 := (if ((1 : Int32) + (f0_0 p1 p2 p3 cz)) = ((1 : Int32) + (f0_1 p1 p2 p3 cz)) then (f0_9 p1 p2 p3 cz) else (0 : Int32))
def f0_11 (p1 : Int32) (p2 : Int32) (p3 : Int32) (cz : Int32) : Int32 := (feqk (fmk_x0 ((1 : Int32) + (f0_0 p1 p2 p3 cz)) (fpc p1) (fpc (XT.ushr p1 (8 : Int32))) (fpc (XT.ushr p1 (16 : Int32))) cz) (fmk_x0 ((1 : Int32) + (f0_1 p1 p2 p3 cz)) (f0_2 p1 p2 p3 cz) (f0_3 p1 p2 p3 cz) (f0_4 p1 p2 p3 cz) cz) cz)
def f0_12 (p1 : Int32) (p2 : Int32) (p3 : Int32) (cz : Int32) : Int32 := (feqk (fmk_x0 ((1 : Int32) + (f0_1 p1 p2 p3 cz)) (f0_2 p1 p2 p3 cz) (f0_3 p1 p2 p3 cz) (f0_4 p1 p2 p3 cz) cz) (fmk_x0 ((1 : Int32) + (f0_0 p1 p2 p3 cz)) (fpc p1) (fpc (XT.ushr p1 (8 : Int32))) (fpc (XT.ushr p1 (16 : Int32))) cz) cz)
def f0_13 (p1 : Int32) (p2 : Int32) (p3 : Int32) (cz : Int32) : Int32 := (feqk (fmk_x0 ((1 : Int32) + (f0_0 p1 p2 p3 cz)) (fpc p1) (fpc (XT.ushr p1 (8 : Int32))) (fpc (XT.ushr p1 (16 : Int32))) cz) (fmk_x0 ((1 : Int32) + (f0_0 p1 p2 p3 cz)) (fpc p1) (fpc (XT.ushr p1 (8 : Int32))) (fpc (XT.ushr p1 (16 : Int32))) cz) cz)
def f0 (p1 : Int32) (p2 : Int32) (p3 : Int32) (cz : Int32) : Int32 := (if ((XT.ushr p3 (7 : Int32)) &&& (3 : Int32)) = (0 : Int32) then (if (f0_11 p1 p2 p3 cz) = (f0_10 p1 p2 p3 cz) then (if (f0_12 p1 p2 p3 cz) = (f0_11 p1 p2 p3 cz) then (1 : Int32) else (0 : Int32)) else (0 : Int32)) else (if ((XT.ushr p3 (7 : Int32)) &&& (3 : Int32)) = (1 : Int32) then ((if (feqn) = (0 : Int32) then (1 : Int32) else (0 : Int32)) &&& 1) else (if ((XT.ushr p3 (7 : Int32)) &&& (3 : Int32)) = (2 : Int32) then ((if (feqs) = (0 : Int32) then (1 : Int32) else (0 : Int32)) &&& 1) else ((f0_13 p1 p2 p3 cz) &&& 1))))
def own_g (y : Int32) : Int32 := (((32 : Int32) + (y - (y / (95 : Int32)) * (95 : Int32))).toUInt32.toUInt16.toUInt32.toInt32).toUInt32.toUInt16.toUInt32.toInt32
theorem own_prA : ∀ n : Fin 256, 32 ≤ (own_g (Int32.ofNat n.val)).toBitVec.toNat ∧ (own_g (Int32.ofNat n.val)).toBitVec.toNat ≤ 126 := by decide +kernel
theorem own_prpc (x : Int32) : own_pr (fpc x) := by
  have q := own_prA ⟨(x &&& (255 : Int32)).toBitVec.toNat, own_mI x⟩
  rw [← own_of (x &&& (255 : Int32))] at q
  exact q
theorem own_mkv {l a b c cz : Int32} (pa : own_pr a) (pb : own_pr b) (pc : own_pr c) : fmk_x0 l a b c cz = if l = (1 : Int32) then [a] else if l = (2 : Int32) then [a, b] else [a, b, c] := by
  unfold fmk_x0
  rw [own_cc pa, own_cc pb, own_cc pc]
theorem own_okmk (l a b c cz : Int32) (pa : own_pr a) (pb : own_pr b) (pc : own_pr c) : own_ok (fmk_x0 l a b c cz) := by
  rw [own_mkv pa pb pc]
  by_cases h1 : l = (1 : Int32)
  · rw [if_pos h1]; exact Or.inl ⟨a, rfl, pa⟩
  · rw [if_neg h1]
    by_cases h2 : l = (2 : Int32)
    · rw [if_pos h2]; exact Or.inr (Or.inl ⟨a, b, rfl, pa, pb⟩)
    · rw [if_neg h2]; exact Or.inr (Or.inr ⟨a, b, c, rfl, pa, pb, pc⟩)
theorem own_feq (cs ds : List Int32) (cz : Int32) : feqk cs ds cz = if cs = ds then 1 else 0 := by
  by_cases h : cs = ds
  · rw [if_pos h]; unfold feqk feqk_0 own_eq; rw [if_pos h]; first | rfl | decide
  · rw [if_neg h]; unfold feqk feqk_0 own_eq; rw [if_neg h]; first | rfl | decide
theorem own_feqs (cs ds : List Int32) (cz : Int32) : feqk cs ds cz = feqk ds cs cz := by
  rw [own_feq, own_feq]
  by_cases h : cs = ds
  · rw [if_pos h, if_pos h.symm]
  · rw [if_neg h, if_neg (fun q => h q.symm)]
def own_E6 (l1 a2 b2 : Int32) : Int32 := (if l1 < (3 : Int32) then (1 : Int32) else (if a2 = b2 then (1 : Int32) else (0 : Int32)))
def own_E (l1 l2 a0 a1 a2 b0 b1 b2 : Int32) : Int32 := (if l1 = l2 then (if a0 = b0 then (if l1 < (2 : Int32) then own_E6 l1 a2 b2 else (if a1 = b1 then own_E6 l1 a2 b2 else (0 : Int32))) else (0 : Int32)) else (0 : Int32))
def own_g3 (y : Int32) : Int32 := ((1 : Int32) + (y - (y / (3 : Int32)) * (3 : Int32)))
theorem own_l3A : ∀ n : Fin 4, own_g3 (Int32.ofNat n.val) = 1 ∨ own_g3 (Int32.ofNat n.val) = 2 ∨ own_g3 (Int32.ofNat n.val) = 3 := by decide +kernel
theorem own_m3 (x : Int32) : (x &&& (3 : Int32)).toBitVec.toNat < 4 := by
  show (x.toBitVec &&& (3 : Int32).toBitVec).toNat < 4
  rw [BitVec.toNat_and, show (3 : Int32).toBitVec.toNat = 2 ^ 2 - 1 from by decide, Nat.and_two_pow_sub_one_eq_mod]
  omega
theorem own_l3 (x : Int32) : own_g3 (x &&& (3 : Int32)) = 1 ∨ own_g3 (x &&& (3 : Int32)) = 2 ∨ own_g3 (x &&& (3 : Int32)) = 3 := by
  have q := own_l3A ⟨(x &&& (3 : Int32)).toBitVec.toNat, own_m3 x⟩
  rw [← own_of (x &&& (3 : Int32))] at q
  exact q
theorem own_key (l1 l2 a0 a1 a2 b0 b1 b2 cz : Int32) (h1 : l1 = 1 ∨ l1 = 2 ∨ l1 = 3) (h2 : l2 = 1 ∨ l2 = 2 ∨ l2 = 3) (pa : own_pr a0) (pb : own_pr a1) (pc : own_pr a2) (qa : own_pr b0) (qb : own_pr b1) (qc : own_pr b2) : feqk (fmk_x0 l1 a0 a1 a2 cz) (fmk_x0 l2 b0 b1 b2 cz) cz = own_E l1 l2 a0 a1 a2 b0 b1 b2 := by
  rw [own_feq, own_mkv pa pb pc, own_mkv qa qb qc]
  clear pa pb pc qa qb qc
  unfold own_E own_E6
  rcases h1 with rfl | rfl | rfl <;> rcases h2 with rfl | rfl | rfl <;> by_cases e0 : a0 = b0 <;> by_cases e1 : a1 = b1 <;> by_cases e2 : a2 = b2 <;> simp +decide [e0, e1, e2]
theorem own_pr2 (p1 p2 p3 cz : Int32) : own_pr (f0_2 p1 p2 p3 cz) := by unfold f0_2; split <;> exact own_prpc _
theorem own_pr3 (p1 p2 p3 cz : Int32) : own_pr (f0_3 p1 p2 p3 cz) := by unfold f0_3; split <;> exact own_prpc _
theorem own_pr4 (p1 p2 p3 cz : Int32) : own_pr (f0_4 p1 p2 p3 cz) := by unfold f0_4; split <;> exact own_prpc _
theorem own_law (p1 p2 p3 : Int32) (cz : Int32) : f0 p1 p2 p3 cz = 1 := by
  unfold f0
  by_cases k0 : ((XT.ushr p3 (7 : Int32)) &&& (3 : Int32)) = (0 : Int32)
  · rw [if_pos k0]
    have e1 : f0_11 p1 p2 p3 cz = f0_10 p1 p2 p3 cz := own_key ((1 : Int32) + (f0_0 p1 p2 p3 cz)) ((1 : Int32) + (f0_1 p1 p2 p3 cz)) (fpc p1) (fpc (XT.ushr p1 (8 : Int32))) (fpc (XT.ushr p1 (16 : Int32))) (f0_2 p1 p2 p3 cz) (f0_3 p1 p2 p3 cz) (f0_4 p1 p2 p3 cz) cz (own_l3 p3) (own_l3 (XT.ushr p3 (2 : Int32))) (own_prpc _) (own_prpc _) (own_prpc _) (own_pr2 p1 p2 p3 cz) (own_pr3 p1 p2 p3 cz) (own_pr4 p1 p2 p3 cz)
    have e2 : f0_12 p1 p2 p3 cz = f0_11 p1 p2 p3 cz := own_feqs _ _ _
    rw [if_pos e1, if_pos e2]
  · rw [if_neg k0]
    by_cases k1 : ((XT.ushr p3 (7 : Int32)) &&& (3 : Int32)) = (1 : Int32)
    · rw [if_pos k1]; first | rfl | decide
    · rw [if_neg k1]
      by_cases k2 : ((XT.ushr p3 (7 : Int32)) &&& (3 : Int32)) = (2 : Int32)
      · rw [if_pos k2]; first | rfl | decide
      · rw [if_neg k2]
        have e3 : f0_13 p1 p2 p3 cz = 1 := by
          unfold f0_13
          rw [own_feq, if_pos rfl]
        rw [e3]; first | rfl | decide

abbrev own_G (tb : Tables) (e : Env) (below : List Frame) (Q : Outcome → State → Prop) (A : State) : Prop := ∃ s₂ o, Steps tb e below A s₂ ∧ s₂.status = .running ∧ Ended s₂ below o ∧ Q o s₂
theorem own_step {tb : Tables} {e : Env} {below : List Frame} {Q : Outcome → State → Prop} {A B : State} (h : ∀ t, Steps tb e below B t → Steps tb e below A t) (g : own_G tb e below Q B) : own_G tb e below Q A := by
  obtain ⟨s2, o, h1, h2⟩ := g
  exact ⟨s2, o, h _ h1, h2⟩
theorem own_aN {x : Addr} : XT.acmp .eq (.ref x) .null = false ∧ XT.acmp .ne (.ref x) .null = true := by simp [XT.acmp]
theorem own_aT {x y : Addr} (h : x = y) : XT.acmp .eq (.ref x) (.ref y) = true ∧ XT.acmp .ne (.ref x) (.ref y) = false := by subst h; exact ⟨by simp [XT.acmp], by simp [XT.acmp]⟩
theorem own_aF {x y : Addr} (h : ¬ x = y) : XT.acmp .eq (.ref x) (.ref y) = false ∧ XT.acmp .ne (.ref x) (.ref y) = true := by simp [XT.acmp, h]
theorem own_cl (x y : Int64) : XT.cmpL x y < 0 ↔ x < y := lw_lt x y
theorem own_cg (x y : Int64) : 0 < XT.cmpL x y ↔ y < x := lw_gt x y
theorem own_ce (x y : Int64) : XT.cmpL x y = 0 ↔ x = y := lw_eq x y
theorem pd_0 : parseMethodDescriptor "(IILjava/util/function/BiFunction;)I" = some ⟨[.int, .int, (.object "java/util/function/BiFunction")], some .int⟩ := by decide +kernel
theorem pd_1 : parseMethodDescriptor "()Z" = some ⟨[], some .boolean⟩ := by decide +kernel
theorem pd_2 : parseMethodDescriptor "(II)V" = some ⟨[.int, .int], none⟩ := by decide +kernel
theorem pd_3 : parseMethodDescriptor "()I" = some ⟨[], some .int⟩ := by decide +kernel
theorem pd_4 : parseMethodDescriptor "(I)I" = some ⟨[.int], some .int⟩ := by decide +kernel
theorem pd_5 : parseMethodDescriptor "([C)V" = some ⟨[(.array .char)], none⟩ := by decide +kernel
theorem pd_6 : parseMethodDescriptor "(Ljava/lang/Object;Ljava/lang/String;)Ljava/lang/Object;" = some ⟨[(.object "java/lang/Object"), (.object "java/lang/String")], some (.object "java/lang/Object")⟩ := by decide +kernel
theorem pd_7 : parseMethodDescriptor "(Ljava/lang/String;ILjava/lang/String;)Ljava/lang/String;" = some ⟨[(.object "java/lang/String"), .int, (.object "java/lang/String")], some (.object "java/lang/String")⟩ := by decide +kernel
theorem pd_8 : parseMethodDescriptor "(Ljava/lang/Object;)Z" = some ⟨[(.object "java/lang/Object")], some .boolean⟩ := by decide +kernel
theorem pd_9 : parseMethodDescriptor "(I)C" = some ⟨[.int], some .char⟩ := by decide +kernel
theorem pd_10 : parseMethodDescriptor "(ICCC)Ljava/lang/String;" = some ⟨[.int, .char, .char, .char], some (.object "java/lang/String")⟩ := by decide +kernel
theorem pd_11 : parseMethodDescriptor "(Ljava/lang/String;)V" = some ⟨[(.object "java/lang/String")], none⟩ := by decide +kernel
theorem d1_0 : decode method_2_code 0 = .ok (.bipush 32, 2) := by decide +kernel
theorem d1_2 : decode method_2_code 2 = .ok (.iload_n 0, 1) := by decide +kernel
theorem d1_3 : decode method_2_code 3 = .ok (.sipush 255, 3) := by decide +kernel
theorem d1_6 : decode method_2_code 6 = .ok (.iand, 1) := by decide +kernel
theorem d1_7 : decode method_2_code 7 = .ok (.bipush 95, 2) := by decide +kernel
theorem d1_9 : decode method_2_code 9 = .ok (.irem, 1) := by decide +kernel
theorem d1_10 : decode method_2_code 10 = .ok (.iadd, 1) := by decide +kernel
theorem d1_11 : decode method_2_code 11 = .ok (.i2c, 1) := by decide +kernel
theorem d1_12 : decode method_2_code 12 = .ok (.ireturn, 1) := by decide +kernel
theorem pn_pc : plainName "com/example/hitotabi/hitotabi/IdempotencyKeyEqualsPinLaw" = true := by first | (simp [plainName, overriddenIn]; done) | decide +kernel
theorem ef_pc (m : MethodId) (p1 : Int32) : entryFrame m #[(.int p1)] 1 = mkF m 0 #[.val (.int p1)] [] := by first | (simp [entryFrame, mkF, argsToLocals, Value.category]; done) | rfl
def Qpc (Z : State) (p1 : Int32) (h0 : Heap) (n0 : Nat) (v : Option Value) (h : Heap) (L : List Loc) : Prop := v = some (.int (fpc p1)) ∧ Fr n0 L ∧ h = h0
set_option maxRecDepth 65536 in
set_option maxHeartbeats 40000000 in
theorem rmpc (l : Launch) (Z : State) (a0 : Array Value) (hw : ∀ d ∈ tables_1, d.before a0 Z = true) (ws : List Jvm.Cond) (p1 : Int32) (h0 : Heap) (n0 : Nat) (Z0 : n0 ≤ h0.size) :
    MetFree l (⟨"com/example/hitotabi/hitotabi/IdempotencyKeyEqualsPinLaw", "pc", "(I)C"⟩ : MethodName) (head1 (Jvm.Cond.code (⟨"com/example/hitotabi/hitotabi/IdempotencyKeyEqualsPinLaw", "pc", "(I)C"⟩ : MethodName) method_2_code 1 (some .char) :: ws) ({ frames := 0, cells := 0, slots := 0, locals := 0 } : Room)) (fun a U => a = #[(.int p1)] ∧ Z.Warmed39 U.vm ∧ U.heap = h0) (fun _ _ _ _ _ => True) (fun _ U o U' => ∃ v L, o = .returned v ∧ Qpc Z p1 h0 n0 v U'.heap L ∧ FrameEnd U o U' L ({ frames := 0, cells := 0, slots := 0, locals := 0 } : Room).cells ({ frames := 0, cells := 0, slots := 0, locals := 0 } : Room).slots) := by
  refine MetFree.of_bodySF (plainFor_of_name pn_pc) hisR ?_
  intro p e s m args below meth c s₁ Bd hml0 hP hK
  obtain ⟨rfl, hZ, hh⟩ := hP
  have hx := Bd.exec
  have hby := Bd.bytes
  have hml : c.maxLocals = 1 := hml0
  have hown : s.vm.findClass "com/example/hitotabi/hitotabi/IdempotencyKeyEqualsPinLaw" = some m.cls := findClass_of_methodNamed Bd.named
  have hnm := (name_of_methodNamed Bd.named Bd.method).1
  have X0 : Stand p l e ({ frames := 0, cells := 0, slots := 0, locals := 0 } : Room) s m #[(.int p1)] below meth c s₁ [] 0 0 := Stand.of_body Bd
  have e0 : s₁.heap = h0 := by rw [← hh, Bd.state]; rfl
  have N0 := Fr.nil n0
  have pre0 : ∀ t, Steps p.tables e below (s₁.setTop (mkF m 0 #[.val (.int p1)] [])) t → Steps p.tables e below (s₁.setTop (entryFrame m #[(.int p1)] 1)) t := fun t k => castTop (ef_pc m p1) k
  refine own_step (Q := fun o U' => ∃ v L, o = .returned v ∧ Qpc Z p1 h0 n0 v U'.heap L ∧ FrameEnd s o U' L ({ frames := 0, cells := 0, slots := 0, locals := 0 } : Room).cells ({ frames := 0, cells := 0, slots := 0, locals := 0 } : Room).slots) pre0 ?_
  obtain ⟨fs, hr, hrun, hended, hW, hsame⟩ := X0.leave (v := some (.int (fpc_1 p1).toUInt32.toUInt16.toUInt32.toInt32)) (fun h => by rw [Bd.returns] at h; cases h)
  refine ⟨_, _, ?_, hrun, hended, _, _, rfl, ?_, ⟨_, rfl⟩, hW, hsame.mono (by decide) (by decide)⟩
  · show Steps p.tables e below (s₁.setTop (mkF m 0 #[.val (.int p1)] [])) _
    refine XS.bipush X0.here hx rfl (hb hby d1_0) ?_
    show Steps p.tables e below (s₁.setTop (mkF m 2 #[.val (.int p1)] [(.int (32 : Int32))])) _
    refine XS.iloadN X0.here hx rfl (hb hby d1_2) rfl ?_
    show Steps p.tables e below (s₁.setTop (mkF m 3 #[.val (.int p1)] [(.int p1), (.int (32 : Int32))])) _
    refine XS.sipush X0.here hx rfl (hb hby d1_3) ?_
    show Steps p.tables e below (s₁.setTop (mkF m 6 #[.val (.int p1)] [(.int (255 : Int32)), (.int p1), (.int (32 : Int32))])) _
    refine XS.iand X0.here hx rfl (hb hby d1_6) rfl ?_
    show Steps p.tables e below (s₁.setTop (mkF m 7 #[.val (.int p1)] [(.int (p1 &&& (255 : Int32))), (.int (32 : Int32))])) _
    refine XS.bipush X0.here hx rfl (hb hby d1_7) ?_
    show Steps p.tables e below (s₁.setTop (mkF m 9 #[.val (.int p1)] [(.int (95 : Int32)), (.int (p1 &&& (255 : Int32))), (.int (32 : Int32))])) _
    refine XS.irem X0.here hx rfl (hb hby d1_9) rfl (by decide) ?_
    show Steps p.tables e below (s₁.setTop (mkF m 10 #[.val (.int p1)] [(.int (fpc_0 p1)), (.int (32 : Int32))])) _
    refine XS.iadd X0.here hx rfl (hb hby d1_10) rfl ?_
    show Steps p.tables e below (s₁.setTop (mkF m 11 #[.val (.int p1)] [(.int ((32 : Int32) + (fpc_0 p1)))])) _
    refine XT.i2c X0.here hx rfl (hb hby d1_11) rfl ?_
    show Steps p.tables e below (s₁.setTop (mkF m 12 #[.val (.int p1)] [(.int (fpc_1 p1))])) _
    exact retN X0 hx (t := .char) Bd.returns (by simp) (hb hby d1_12) hr
  · show Qpc Z p1 h0 n0 _ s₁.heap _
    rw [e0]
    have hf : fpc p1 = (fpc_1 p1).toUInt32.toUInt16.toUInt32.toInt32 := rfl
    exact ⟨by rw [hf], N0, rfl⟩
theorem d17_0 : decode jdk_41_method_11_code 0 = .ok (.iload_n 0, 1) := by decide +kernel
theorem d17_1 : decode jdk_41_method_11_code 1 = .ok (.ifCond .lt 8, 3) := by decide +kernel
theorem d17_4 : decode jdk_41_method_11_code 4 = .ok (.iload_n 0, 1) := by decide +kernel
theorem d17_5 : decode jdk_41_method_11_code 5 = .ok (.iload_n 1, 1) := by decide +kernel
theorem d17_6 : decode jdk_41_method_11_code 6 = .ok (.if_icmp .lt 10, 3) := by decide +kernel
theorem d17_16 : decode jdk_41_method_11_code 16 = .ok (.iload_n 0, 1) := by decide +kernel
theorem d17_17 : decode jdk_41_method_11_code 17 = .ok (.ireturn, 1) := by decide +kernel
theorem pn_pkN : plainName "jdk/internal/util/Preconditions" = true := by first | (simp [plainName, overriddenIn]; done) | decide +kernel
theorem ef_pkN (m : MethodId) (p1 : Int32) (p2 : Int32) : entryFrame m #[(.int p1), (.int p2), .null] 3 = mkF m 0 #[.val (.int p1), .val (.int p2), .val .null] [] := by first | (simp [entryFrame, mkF, argsToLocals, Value.category]; done) | rfl
def QpkN (Z : State) (p1 : Int32) (p2 : Int32) (h0 : Heap) (n0 : Nat) (v : Option Value) (h : Heap) (L : List Loc) : Prop := v = some (.int (fpkN p1 p2)) ∧ Fr n0 L ∧ h = h0
set_option maxRecDepth 65536 in
set_option maxHeartbeats 40000000 in
theorem rmpkN (l : Launch) (Z : State) (a0 : Array Value) (hw : ∀ d ∈ tables_1, d.before a0 Z = true) (ws : List Jvm.Cond) (p1 : Int32) (p2 : Int32) (h0 : Heap) (n0 : Nat) (Z0 : n0 ≤ h0.size) (hlo : ¬ p1 < (0 : Int32)) (hhi : p1 < p2) :
    MetFree l (⟨"jdk/internal/util/Preconditions", "checkIndex", "(IILjava/util/function/BiFunction;)I"⟩ : MethodName) (head1 (Jvm.Cond.code (⟨"jdk/internal/util/Preconditions", "checkIndex", "(IILjava/util/function/BiFunction;)I"⟩ : MethodName) jdk_41_method_11_code 3 (some .int) :: ws) ({ frames := 0, cells := 0, slots := 0, locals := 0 } : Room)) (fun a U => a = #[(.int p1), (.int p2), .null] ∧ Z.Warmed39 U.vm ∧ U.heap = h0) (fun _ _ _ _ _ => True) (fun _ U o U' => ∃ v L, o = .returned v ∧ QpkN Z p1 p2 h0 n0 v U'.heap L ∧ FrameEnd U o U' L ({ frames := 0, cells := 0, slots := 0, locals := 0 } : Room).cells ({ frames := 0, cells := 0, slots := 0, locals := 0 } : Room).slots) := by
  refine MetFree.of_bodySF (plainFor_of_name pn_pkN) hisR ?_
  intro p e s m args below meth c s₁ Bd hml0 hP hK
  obtain ⟨rfl, hZ, hh⟩ := hP
  have hx := Bd.exec
  have hby := Bd.bytes
  have hml : c.maxLocals = 3 := hml0
  have hown : s.vm.findClass "jdk/internal/util/Preconditions" = some m.cls := findClass_of_methodNamed Bd.named
  have hnm := (name_of_methodNamed Bd.named Bd.method).1
  have X0 : Stand p l e ({ frames := 0, cells := 0, slots := 0, locals := 0 } : Room) s m #[(.int p1), (.int p2), .null] below meth c s₁ [] 0 0 := Stand.of_body Bd
  have e0 : s₁.heap = h0 := by rw [← hh, Bd.state]; rfl
  have N0 := Fr.nil n0
  have pre0 : ∀ t, Steps p.tables e below (s₁.setTop (mkF m 0 #[.val (.int p1), .val (.int p2), .val .null] [])) t → Steps p.tables e below (s₁.setTop (entryFrame m #[(.int p1), (.int p2), .null] 3)) t := fun t k => castTop (ef_pkN m p1 p2) k
  refine own_step (Q := fun o U' => ∃ v L, o = .returned v ∧ QpkN Z p1 p2 h0 n0 v U'.heap L ∧ FrameEnd s o U' L ({ frames := 0, cells := 0, slots := 0, locals := 0 } : Room).cells ({ frames := 0, cells := 0, slots := 0, locals := 0 } : Room).slots) pre0 ?_
  have h1 : ¬ (p1 < (0 : Int32)) := hlo
  have h2 : p1 < p2 := hhi
  obtain ⟨fs, hr, hrun, hended, hW, hsame⟩ := X0.leave (v := some (.int p1)) (fun h => by rw [Bd.returns] at h; cases h)
  refine ⟨_, _, ?_, hrun, hended, _, _, rfl, ?_, ⟨_, rfl⟩, hW, hsame.mono (by decide) (by decide)⟩
  · show Steps p.tables e below (s₁.setTop (mkF m 0 #[.val (.int p1), .val (.int p2), .val .null] [])) _
    refine XS.iloadN X0.here hx rfl (hb hby d17_0) rfl ?_
    show Steps p.tables e below (s₁.setTop (mkF m 1 #[.val (.int p1), .val (.int p2), .val .null] [(.int p1)])) _
    refine XS.ifNo X0.here hx rfl (hb hby d17_1) rfl ((if0 _ _).trans (flt h1).1) ?_
    show Steps p.tables e below (s₁.setTop (mkF m 4 #[.val (.int p1), .val (.int p2), .val .null] [])) _
    refine XS.iloadN X0.here hx rfl (hb hby d17_4) rfl ?_
    show Steps p.tables e below (s₁.setTop (mkF m 5 #[.val (.int p1), .val (.int p2), .val .null] [(.int p1)])) _
    refine XS.iloadN X0.here hx rfl (hb hby d17_5) rfl ?_
    show Steps p.tables e below (s₁.setTop (mkF m 6 #[.val (.int p1), .val (.int p2), .val .null] [(.int p2), (.int p1)])) _
    refine XS.icmpYes X0.here hx rfl (pc0 := 6) (pc' := 16) rfl (hb hby d17_6) rfl (tlt h2).1 (by decide) (by decide) ?_
    show Steps p.tables e below (s₁.setTop (mkF m 16 #[.val (.int p1), .val (.int p2), .val .null] [])) _
    refine XS.iloadN X0.here hx rfl (hb hby d17_16) rfl ?_
    show Steps p.tables e below (s₁.setTop (mkF m 17 #[.val (.int p1), .val (.int p2), .val .null] [(.int p1)])) _
    exact retI X0 hx Bd.returns (hb hby d17_17) hr
  · show QpkN Z p1 p2 h0 n0 _ s₁.heap _
    rw [e0]
    have hf : fpkN p1 p2 = p1 := rfl
    exact ⟨by rw [hf], N0, rfl⟩
theorem pn_pkR : plainName "jdk/internal/util/Preconditions" = true := by first | (simp [plainName, overriddenIn]; done) | decide +kernel
theorem ef_pkR (m : MethodId) (p1 : Int32) (p2 : Int32) (a3 : Addr) : entryFrame m #[(.int p1), (.int p2), (.ref a3)] 3 = mkF m 0 #[.val (.int p1), .val (.int p2), .val (.ref a3)] [] := by first | (simp [entryFrame, mkF, argsToLocals, Value.category]; done) | rfl
def QpkR (Z : State) (p1 : Int32) (p2 : Int32) (a3 : Addr) (h0 : Heap) (n0 : Nat) (v : Option Value) (h : Heap) (L : List Loc) : Prop := v = some (.int (fpkR p1 p2)) ∧ Fr n0 L ∧ h = h0
set_option maxRecDepth 65536 in
set_option maxHeartbeats 40000000 in
theorem rmpkR (l : Launch) (Z : State) (a0 : Array Value) (hw : ∀ d ∈ tables_1, d.before a0 Z = true) (ws : List Jvm.Cond) (p1 : Int32) (p2 : Int32) (a3 : Addr) (h0 : Heap) (n0 : Nat) (Z0 : n0 ≤ h0.size) (hlo : ¬ p1 < (0 : Int32)) (hhi : p1 < p2) :
    MetFree l (⟨"jdk/internal/util/Preconditions", "checkIndex", "(IILjava/util/function/BiFunction;)I"⟩ : MethodName) (head1 (Jvm.Cond.code (⟨"jdk/internal/util/Preconditions", "checkIndex", "(IILjava/util/function/BiFunction;)I"⟩ : MethodName) jdk_41_method_11_code 3 (some .int) :: ws) ({ frames := 0, cells := 0, slots := 0, locals := 0 } : Room)) (fun a U => a = #[(.int p1), (.int p2), (.ref a3)] ∧ Z.Warmed39 U.vm ∧ U.heap = h0) (fun _ _ _ _ _ => True) (fun _ U o U' => ∃ v L, o = .returned v ∧ QpkR Z p1 p2 a3 h0 n0 v U'.heap L ∧ FrameEnd U o U' L ({ frames := 0, cells := 0, slots := 0, locals := 0 } : Room).cells ({ frames := 0, cells := 0, slots := 0, locals := 0 } : Room).slots) := by
  refine MetFree.of_bodySF (plainFor_of_name pn_pkR) hisR ?_
  intro p e s m args below meth c s₁ Bd hml0 hP hK
  obtain ⟨rfl, hZ, hh⟩ := hP
  have hx := Bd.exec
  have hby := Bd.bytes
  have hml : c.maxLocals = 3 := hml0
  have hown : s.vm.findClass "jdk/internal/util/Preconditions" = some m.cls := findClass_of_methodNamed Bd.named
  have hnm := (name_of_methodNamed Bd.named Bd.method).1
  have X0 : Stand p l e ({ frames := 0, cells := 0, slots := 0, locals := 0 } : Room) s m #[(.int p1), (.int p2), (.ref a3)] below meth c s₁ [] 0 0 := Stand.of_body Bd
  have e0 : s₁.heap = h0 := by rw [← hh, Bd.state]; rfl
  have N0 := Fr.nil n0
  have pre0 : ∀ t, Steps p.tables e below (s₁.setTop (mkF m 0 #[.val (.int p1), .val (.int p2), .val (.ref a3)] [])) t → Steps p.tables e below (s₁.setTop (entryFrame m #[(.int p1), (.int p2), (.ref a3)] 3)) t := fun t k => castTop (ef_pkR m p1 p2 a3) k
  refine own_step (Q := fun o U' => ∃ v L, o = .returned v ∧ QpkR Z p1 p2 a3 h0 n0 v U'.heap L ∧ FrameEnd s o U' L ({ frames := 0, cells := 0, slots := 0, locals := 0 } : Room).cells ({ frames := 0, cells := 0, slots := 0, locals := 0 } : Room).slots) pre0 ?_
  have h1 : ¬ (p1 < (0 : Int32)) := hlo
  have h2 : p1 < p2 := hhi
  obtain ⟨fs, hr, hrun, hended, hW, hsame⟩ := X0.leave (v := some (.int p1)) (fun h => by rw [Bd.returns] at h; cases h)
  refine ⟨_, _, ?_, hrun, hended, _, _, rfl, ?_, ⟨_, rfl⟩, hW, hsame.mono (by decide) (by decide)⟩
  · show Steps p.tables e below (s₁.setTop (mkF m 0 #[.val (.int p1), .val (.int p2), .val (.ref a3)] [])) _
    refine XS.iloadN X0.here hx rfl (hb hby d17_0) rfl ?_
    show Steps p.tables e below (s₁.setTop (mkF m 1 #[.val (.int p1), .val (.int p2), .val (.ref a3)] [(.int p1)])) _
    refine XS.ifNo X0.here hx rfl (hb hby d17_1) rfl ((if0 _ _).trans (flt h1).1) ?_
    show Steps p.tables e below (s₁.setTop (mkF m 4 #[.val (.int p1), .val (.int p2), .val (.ref a3)] [])) _
    refine XS.iloadN X0.here hx rfl (hb hby d17_4) rfl ?_
    show Steps p.tables e below (s₁.setTop (mkF m 5 #[.val (.int p1), .val (.int p2), .val (.ref a3)] [(.int p1)])) _
    refine XS.iloadN X0.here hx rfl (hb hby d17_5) rfl ?_
    show Steps p.tables e below (s₁.setTop (mkF m 6 #[.val (.int p1), .val (.int p2), .val (.ref a3)] [(.int p2), (.int p1)])) _
    refine XS.icmpYes X0.here hx rfl (pc0 := 6) (pc' := 16) rfl (hb hby d17_6) rfl (tlt h2).1 (by decide) (by decide) ?_
    show Steps p.tables e below (s₁.setTop (mkF m 16 #[.val (.int p1), .val (.int p2), .val (.ref a3)] [])) _
    refine XS.iloadN X0.here hx rfl (hb hby d17_16) rfl ?_
    show Steps p.tables e below (s₁.setTop (mkF m 17 #[.val (.int p1), .val (.int p2), .val (.ref a3)] [(.int p1)])) _
    exact retI X0 hx Bd.returns (hb hby d17_17) hr
  · show QpkR Z p1 p2 a3 h0 n0 _ s₁.heap _
    rw [e0]
    have hf : fpkR p1 p2 = p1 := rfl
    exact ⟨by rw [hf], N0, rfl⟩
theorem d16_0 : decode jdk_42_method_155_code 0 = .ok (.iload_n 0, 1) := by decide +kernel
theorem d16_1 : decode jdk_42_method_155_code 1 = .ok (.iload_n 1, 1) := by decide +kernel
theorem d16_2 : decode jdk_42_method_155_code 2 = .ok (.getstatic 1053, 3) := by decide +kernel
theorem d16_5 : decode jdk_42_method_155_code 5 = .ok (.invokestatic 1059, 3) := by decide +kernel
theorem d16_8 : decode jdk_42_method_155_code 8 = .ok (.pop, 1) := by decide +kernel
theorem d16_9 : decode jdk_42_method_155_code 9 = .ok (.return_, 1) := by decide +kernel
theorem pn_ciN : plainName "java/lang/String" = true := by first | (simp [plainName, overriddenIn]; done) | decide +kernel
theorem ef_ciN (m : MethodId) (p1 : Int32) (p2 : Int32) : entryFrame m #[(.int p1), (.int p2)] 2 = mkF m 0 #[.val (.int p1), .val (.int p2)] [] := by first | (simp [entryFrame, mkF, argsToLocals, Value.category]; done) | rfl
def QciN (Z : State) (p1 : Int32) (p2 : Int32) (h0 : Heap) (n0 : Nat) (v : Option Value) (h : Heap) (L : List Loc) : Prop := v = none ∧ Fr n0 L ∧ h = h0
set_option maxRecDepth 65536 in
set_option maxHeartbeats 40000000 in
theorem rmciN (l : Launch) (Z : State) (a0 : Array Value) (hw : ∀ d ∈ tables_1, d.before a0 Z = true) (ws : List Jvm.Cond) (p1 : Int32) (p2 : Int32) (h0 : Heap) (n0 : Nat) (Z0 : n0 ≤ h0.size) (S_Preconditions_SIOOBE_FORMATTER : Sta Z h0 "jdk/internal/util/Preconditions" "SIOOBE_FORMATTER" "Ljava/util/function/BiFunction;" .null) (hlo : ¬ p1 < (0 : Int32)) (hhi : p1 < p2) :
    MetFree l (⟨"java/lang/String", "checkIndex", "(II)V"⟩ : MethodName) (head1 (Jvm.Cond.code (⟨"java/lang/String", "checkIndex", "(II)V"⟩ : MethodName) jdk_42_method_155_code 2 none :: ws) ({ frames := 1, cells := 0, slots := 0, locals := 14 } : Room)) (fun a U => a = #[(.int p1), (.int p2)] ∧ Z.Warmed39 U.vm ∧ U.heap = h0) (fun _ _ _ _ _ => True) (fun _ U o U' => ∃ v L, o = .returned v ∧ QciN Z p1 p2 h0 n0 v U'.heap L ∧ FrameEnd U o U' L ({ frames := 1, cells := 0, slots := 0, locals := 14 } : Room).cells ({ frames := 1, cells := 0, slots := 0, locals := 14 } : Room).slots) := by
  refine MetFree.of_bodySF (plainFor_of_name pn_ciN) hisR ?_
  intro p e s m args below meth c s₁ Bd hml0 hP hK
  obtain ⟨rfl, hZ, hh⟩ := hP
  have hx := Bd.exec
  have hby := Bd.bytes
  have hml : c.maxLocals = 2 := hml0
  have hown : s.vm.findClass "java/lang/String" = some m.cls := findClass_of_methodNamed Bd.named
  have hnm := (name_of_methodNamed Bd.named Bd.method).1
  have X0 : Stand p l e ({ frames := 1, cells := 0, slots := 0, locals := 14 } : Room) s m #[(.int p1), (.int p2)] below meth c s₁ [] 0 0 := Stand.of_body Bd
  have e0 : s₁.heap = h0 := by rw [← hh, Bd.state]; rfl
  have N0 := Fr.nil n0
  have pre0 : ∀ t, Steps p.tables e below (s₁.setTop (mkF m 0 #[.val (.int p1), .val (.int p2)] [])) t → Steps p.tables e below (s₁.setTop (entryFrame m #[(.int p1), (.int p2)] 2)) t := fun t k => castTop (ef_ciN m p1 p2) k
  refine own_step (Q := fun o U' => ∃ v L, o = .returned v ∧ QciN Z p1 p2 h0 n0 v U'.heap L ∧ FrameEnd s o U' L ({ frames := 1, cells := 0, slots := 0, locals := 14 } : Room).cells ({ frames := 1, cells := 0, slots := 0, locals := 14 } : Room).slots) pre0 ?_
  obtain ⟨T1, X1, e1, st1⟩ := getS X0 hx hZ (host := "") hown (hw _ (List.mem_of_getElem? (i := 79) rfl)) Via.refl e0 S_Preconditions_SIOOBE_FORMATTER (g := (mkF m 2 #[.val (.int p1), .val (.int p2)] [(.int p2), (.int p1)])) rfl (hb hby d16_2)
  obtain ⟨_, _, ⟨T2, L2, k2, n2⟩, -, X2, ⟨Lc2, hQ2, l2, y2, z2⟩, st2⟩ := Jvm.LawKit.callS X1 hx (y := (⟨"jdk/internal/util/Preconditions", "checkIndex", "(IILjava/util/function/BiFunction;)I"⟩ : MethodName)) hown (mvT hZ (hw _ (List.mem_of_getElem? (i := 81) rfl))) (mvT hZ (hw _ (List.mem_of_getElem? (i := 82) rfl))) (mvT hZ (hw _ (List.mem_of_getElem? (i := 80) rfl))) (mvT hZ (hw _ (List.mem_of_getElem? (i := 83) rfl))) (by decide) (backOf (W := 0) (rmpkN l Z a0 hw [] p1 p2 h0 n0 Z0 hlo hhi) hZ (hw _ (List.mem_of_getElem? (i := 83) rfl)) (hw _ (List.mem_of_getElem? (i := 80) rfl)) (by decide) (by decide)) (g := (mkF m 5 #[.val (.int p1), .val (.int p2)] [.null, (.int p2), (.int p1)])) rfl (by rw [hml]; rfl) (argsL := [(.int p1), (.int p2), .null]) (rest := []) (lenOf pd_0 rfl) rfl (by show 2 * 0 + _ ≤ _; exact Nat.le_of_eq rfl) (hb hby d16_5) (fun _ _ => ⟨rfl, e1, (by decide : 0 + 0 ≤ _), (by decide : 0 + 0 ≤ _)⟩)
  dsimp only [Pt.U, Pt.locs, Pt.cells, Pt.slots] at X2 l2 y2 z2 st2 hQ2
  subst l2 y2 z2
  obtain ⟨rfl, N2q, e2⟩ := hQ2
  have N2 := Fr.app N0 N2q
  obtain ⟨fs, hr, hrun, hended, hW, hsame⟩ := X2.leave (v := none) (fun _ => rfl)
  refine ⟨_, _, ?_, hrun, hended, _, _, rfl, ?_, ⟨_, rfl⟩, hW, hsame.mono (by decide) (by decide)⟩
  · show Steps p.tables e below (s₁.setTop (mkF m 0 #[.val (.int p1), .val (.int p2)] [])) _
    refine XS.iloadN X0.here hx rfl (hb hby d16_0) rfl ?_
    show Steps p.tables e below (s₁.setTop (mkF m 1 #[.val (.int p1), .val (.int p2)] [(.int p1)])) _
    refine XS.iloadN X0.here hx rfl (hb hby d16_1) rfl ?_
    show Steps p.tables e below (s₁.setTop (mkF m 2 #[.val (.int p1), .val (.int p2)] [(.int p2), (.int p1)])) _
    refine st1 _ ?_
    show Steps p.tables e below (T1.setTop (mkF m 5 #[.val (.int p1), .val (.int p2)] [.null, (.int p2), (.int p1)])) _
    refine st2 _ ?_
    show Steps p.tables e below (T2.setTop (mkF m 8 #[.val (.int p1), .val (.int p2)] [(.int (fpkN p1 p2))])) _
    refine XT.pop X2.here hx rfl (hb hby d16_8) rfl rfl ?_
    show Steps p.tables e below (T2.setTop (mkF m 9 #[.val (.int p1), .val (.int p2)] [])) _
    exact X2.returnOut hx Bd.returns (hb hby d16_9) hr
  · show QciN Z p1 p2 h0 n0 _ T2.heap _
    rw [e2]
    exact ⟨rfl, N2, rfl⟩
theorem pn_ciR : plainName "java/lang/String" = true := by first | (simp [plainName, overriddenIn]; done) | decide +kernel
theorem ef_ciR (m : MethodId) (p1 : Int32) (p2 : Int32) : entryFrame m #[(.int p1), (.int p2)] 2 = mkF m 0 #[.val (.int p1), .val (.int p2)] [] := by first | (simp [entryFrame, mkF, argsToLocals, Value.category]; done) | rfl
def QciR (Z : State) (p1 : Int32) (p2 : Int32) (g3 : Addr) (h0 : Heap) (n0 : Nat) (v : Option Value) (h : Heap) (L : List Loc) : Prop := v = none ∧ Fr n0 L ∧ h = h0
set_option maxRecDepth 65536 in
set_option maxHeartbeats 40000000 in
theorem rmciR (l : Launch) (Z : State) (a0 : Array Value) (hw : ∀ d ∈ tables_1, d.before a0 Z = true) (ws : List Jvm.Cond) (p1 : Int32) (p2 : Int32) (g3 : Addr) (h0 : Heap) (n0 : Nat) (Z0 : n0 ≤ h0.size) (S_Preconditions_SIOOBE_FORMATTER : Sta Z h0 "jdk/internal/util/Preconditions" "SIOOBE_FORMATTER" "Ljava/util/function/BiFunction;" (.ref g3)) (hlo : ¬ p1 < (0 : Int32)) (hhi : p1 < p2) :
    MetFree l (⟨"java/lang/String", "checkIndex", "(II)V"⟩ : MethodName) (head1 (Jvm.Cond.code (⟨"java/lang/String", "checkIndex", "(II)V"⟩ : MethodName) jdk_42_method_155_code 2 none :: ws) ({ frames := 1, cells := 0, slots := 0, locals := 14 } : Room)) (fun a U => a = #[(.int p1), (.int p2)] ∧ Z.Warmed39 U.vm ∧ U.heap = h0) (fun _ _ _ _ _ => True) (fun _ U o U' => ∃ v L, o = .returned v ∧ QciR Z p1 p2 g3 h0 n0 v U'.heap L ∧ FrameEnd U o U' L ({ frames := 1, cells := 0, slots := 0, locals := 14 } : Room).cells ({ frames := 1, cells := 0, slots := 0, locals := 14 } : Room).slots) := by
  refine MetFree.of_bodySF (plainFor_of_name pn_ciR) hisR ?_
  intro p e s m args below meth c s₁ Bd hml0 hP hK
  obtain ⟨rfl, hZ, hh⟩ := hP
  have hx := Bd.exec
  have hby := Bd.bytes
  have hml : c.maxLocals = 2 := hml0
  have hown : s.vm.findClass "java/lang/String" = some m.cls := findClass_of_methodNamed Bd.named
  have hnm := (name_of_methodNamed Bd.named Bd.method).1
  have X0 : Stand p l e ({ frames := 1, cells := 0, slots := 0, locals := 14 } : Room) s m #[(.int p1), (.int p2)] below meth c s₁ [] 0 0 := Stand.of_body Bd
  have e0 : s₁.heap = h0 := by rw [← hh, Bd.state]; rfl
  have N0 := Fr.nil n0
  have pre0 : ∀ t, Steps p.tables e below (s₁.setTop (mkF m 0 #[.val (.int p1), .val (.int p2)] [])) t → Steps p.tables e below (s₁.setTop (entryFrame m #[(.int p1), (.int p2)] 2)) t := fun t k => castTop (ef_ciR m p1 p2) k
  refine own_step (Q := fun o U' => ∃ v L, o = .returned v ∧ QciR Z p1 p2 g3 h0 n0 v U'.heap L ∧ FrameEnd s o U' L ({ frames := 1, cells := 0, slots := 0, locals := 14 } : Room).cells ({ frames := 1, cells := 0, slots := 0, locals := 14 } : Room).slots) pre0 ?_
  obtain ⟨T1, X1, e1, st1⟩ := getS X0 hx hZ (host := "") hown (hw _ (List.mem_of_getElem? (i := 79) rfl)) Via.refl e0 S_Preconditions_SIOOBE_FORMATTER (g := (mkF m 2 #[.val (.int p1), .val (.int p2)] [(.int p2), (.int p1)])) rfl (hb hby d16_2)
  obtain ⟨_, _, ⟨T2, L2, k2, n2⟩, -, X2, ⟨Lc2, hQ2, l2, y2, z2⟩, st2⟩ := Jvm.LawKit.callS X1 hx (y := (⟨"jdk/internal/util/Preconditions", "checkIndex", "(IILjava/util/function/BiFunction;)I"⟩ : MethodName)) hown (mvT hZ (hw _ (List.mem_of_getElem? (i := 81) rfl))) (mvT hZ (hw _ (List.mem_of_getElem? (i := 82) rfl))) (mvT hZ (hw _ (List.mem_of_getElem? (i := 80) rfl))) (mvT hZ (hw _ (List.mem_of_getElem? (i := 83) rfl))) (by decide) (backOf (W := 0) (rmpkR l Z a0 hw [] p1 p2 g3 h0 n0 Z0 hlo hhi) hZ (hw _ (List.mem_of_getElem? (i := 83) rfl)) (hw _ (List.mem_of_getElem? (i := 80) rfl)) (by decide) (by decide)) (g := (mkF m 5 #[.val (.int p1), .val (.int p2)] [(.ref g3), (.int p2), (.int p1)])) rfl (by rw [hml]; rfl) (argsL := [(.int p1), (.int p2), (.ref g3)]) (rest := []) (lenOf pd_0 rfl) rfl (by show 2 * 0 + _ ≤ _; exact Nat.le_of_eq rfl) (hb hby d16_5) (fun _ _ => ⟨rfl, e1, (by decide : 0 + 0 ≤ _), (by decide : 0 + 0 ≤ _)⟩)
  dsimp only [Pt.U, Pt.locs, Pt.cells, Pt.slots] at X2 l2 y2 z2 st2 hQ2
  subst l2 y2 z2
  obtain ⟨rfl, N2q, e2⟩ := hQ2
  have N2 := Fr.app N0 N2q
  obtain ⟨fs, hr, hrun, hended, hW, hsame⟩ := X2.leave (v := none) (fun _ => rfl)
  refine ⟨_, _, ?_, hrun, hended, _, _, rfl, ?_, ⟨_, rfl⟩, hW, hsame.mono (by decide) (by decide)⟩
  · show Steps p.tables e below (s₁.setTop (mkF m 0 #[.val (.int p1), .val (.int p2)] [])) _
    refine XS.iloadN X0.here hx rfl (hb hby d16_0) rfl ?_
    show Steps p.tables e below (s₁.setTop (mkF m 1 #[.val (.int p1), .val (.int p2)] [(.int p1)])) _
    refine XS.iloadN X0.here hx rfl (hb hby d16_1) rfl ?_
    show Steps p.tables e below (s₁.setTop (mkF m 2 #[.val (.int p1), .val (.int p2)] [(.int p2), (.int p1)])) _
    refine st1 _ ?_
    show Steps p.tables e below (T1.setTop (mkF m 5 #[.val (.int p1), .val (.int p2)] [(.ref g3), (.int p2), (.int p1)])) _
    refine st2 _ ?_
    show Steps p.tables e below (T2.setTop (mkF m 8 #[.val (.int p1), .val (.int p2)] [(.int (fpkR p1 p2))])) _
    refine XT.pop X2.here hx rfl (hb hby d16_8) rfl rfl ?_
    show Steps p.tables e below (T2.setTop (mkF m 9 #[.val (.int p1), .val (.int p2)] [])) _
    exact X2.returnOut hx Bd.returns (hb hby d16_9) hr
  · show QciR Z p1 p2 g3 h0 n0 _ T2.heap _
    rw [e2]
    exact ⟨rfl, N2, rfl⟩
def Qci (Z : State) (p1 : Int32) (p2 : Int32) (sf : Value) (h0 : Heap) (n0 : Nat) (v : Option Value) (h : Heap) (L : List Loc) : Prop := v = none ∧ Fr n0 L ∧ h = h0
theorem rmci (l : Launch) (Z : State) (a0 : Array Value) (hw : ∀ d ∈ tables_1, d.before a0 Z = true) (ws : List Jvm.Cond) (p1 : Int32) (p2 : Int32) (sf : Value) (h0 : Heap) (n0 : Nat) (Z0 : n0 ≤ h0.size) (hsf : sf = .null ∨ ∃ g, sf = .ref g) (S_sf : Sta Z h0 "jdk/internal/util/Preconditions" "SIOOBE_FORMATTER" "Ljava/util/function/BiFunction;" sf) (hlo : ¬ p1 < (0 : Int32)) (hhi : p1 < p2) :
    MetFree l (⟨"java/lang/String", "checkIndex", "(II)V"⟩ : MethodName) (head1 (Jvm.Cond.code (⟨"java/lang/String", "checkIndex", "(II)V"⟩ : MethodName) jdk_42_method_155_code 2 none :: ws) ({ frames := 1, cells := 0, slots := 0, locals := 14 } : Room)) (fun a U => a = #[(.int p1), (.int p2)] ∧ Z.Warmed39 U.vm ∧ U.heap = h0) (fun _ _ _ _ _ => True) (fun _ U o U' => ∃ v L, o = .returned v ∧ Qci Z p1 p2 sf h0 n0 v U'.heap L ∧ FrameEnd U o U' L ({ frames := 1, cells := 0, slots := 0, locals := 14 } : Room).cells ({ frames := 1, cells := 0, slots := 0, locals := 14 } : Room).slots) := by
  rcases hsf with rfl | ⟨g3, rfl⟩
  · exact rmciN l Z a0 hw ws p1 p2 h0 n0 Z0 S_sf hlo hhi
  · exact rmciR l Z a0 hw ws p1 p2 g3 h0 n0 Z0 S_sf hlo hhi
theorem d15_0 : decode jdk_42_method_154_code 0 = .ok (.getstatic 38, 3) := by decide +kernel
theorem d15_3 : decode jdk_42_method_154_code 3 = .ok (.ifCond .eq 14, 3) := by decide +kernel
theorem d15_6 : decode jdk_42_method_154_code 6 = .ok (.aload_n 0, 1) := by decide +kernel
theorem d15_7 : decode jdk_42_method_154_code 7 = .ok (.getfield 15, 3) := by decide +kernel
theorem d15_10 : decode jdk_42_method_154_code 10 = .ok (.ifCond .ne 7, 3) := by decide +kernel
theorem d15_13 : decode jdk_42_method_154_code 13 = .ok (.iconst 1, 1) := by decide +kernel
theorem d15_14 : decode jdk_42_method_154_code 14 = .ok (.goto 4, 3) := by decide +kernel
theorem d15_18 : decode jdk_42_method_154_code 18 = .ok (.ireturn, 1) := by decide +kernel
theorem pn_isl : plainName "java/lang/String" = true := by first | (simp [plainName, overriddenIn]; done) | decide +kernel
theorem ef_isl (m : MethodId) (a1 : Addr) : entryFrame m #[(.ref a1)] 1 = mkF m 0 #[.val (.ref a1)] [] := by first | (simp [entryFrame, mkF, argsToLocals, Value.category]; done) | rfl
def Qisl (Z : State) (a1 : Addr) (cz : Int32) (h0 : Heap) (n0 : Nat) (v : Option Value) (h : Heap) (L : List Loc) : Prop := v = some (.int (fisl cz)) ∧ Fr n0 L ∧ h = h0
set_option maxRecDepth 65536 in
set_option maxHeartbeats 40000000 in
theorem rmisl (l : Launch) (Z : State) (a0 : Array Value) (hw : ∀ d ∈ tables_1, d.before a0 Z = true) (ws : List Jvm.Cond) (a1 : Addr) (cz : Int32) (h0 : Heap) (n0 : Nat) (Z0 : n0 ≤ h0.size) (F_a1_coder : Fld Z h0 a1 "java/lang/String" "coder" "B" (.int (0 : Int32))) (S_String_COMPACT_STRINGS : Sta Z h0 "java/lang/String" "COMPACT_STRINGS" "Z" (.int cz)) (hcz : ¬ cz = (0 : Int32)) :
    MetFree l (⟨"java/lang/String", "isLatin1", "()Z"⟩ : MethodName) (head1 (Jvm.Cond.code (⟨"java/lang/String", "isLatin1", "()Z"⟩ : MethodName) jdk_42_method_154_code 1 (some .boolean) :: ws) ({ frames := 0, cells := 0, slots := 0, locals := 0 } : Room)) (fun a U => a = #[(.ref a1)] ∧ Z.Warmed39 U.vm ∧ U.heap = h0) (fun _ _ _ _ _ => True) (fun _ U o U' => ∃ v L, o = .returned v ∧ Qisl Z a1 cz h0 n0 v U'.heap L ∧ FrameEnd U o U' L ({ frames := 0, cells := 0, slots := 0, locals := 0 } : Room).cells ({ frames := 0, cells := 0, slots := 0, locals := 0 } : Room).slots) := by
  refine MetFree.of_bodySF (plainFor_of_name pn_isl) hisR ?_
  intro p e s m args below meth c s₁ Bd hml0 hP hK
  obtain ⟨rfl, hZ, hh⟩ := hP
  have hx := Bd.exec
  have hby := Bd.bytes
  have hml : c.maxLocals = 1 := hml0
  have hown : s.vm.findClass "java/lang/String" = some m.cls := findClass_of_methodNamed Bd.named
  have hnm := (name_of_methodNamed Bd.named Bd.method).1
  have X0 : Stand p l e ({ frames := 0, cells := 0, slots := 0, locals := 0 } : Room) s m #[(.ref a1)] below meth c s₁ [] 0 0 := Stand.of_body Bd
  have e0 : s₁.heap = h0 := by rw [← hh, Bd.state]; rfl
  have N0 := Fr.nil n0
  have pre0 : ∀ t, Steps p.tables e below (s₁.setTop (mkF m 0 #[.val (.ref a1)] [])) t → Steps p.tables e below (s₁.setTop (entryFrame m #[(.ref a1)] 1)) t := fun t k => castTop (ef_isl m a1) k
  refine own_step (Q := fun o U' => ∃ v L, o = .returned v ∧ Qisl Z a1 cz h0 n0 v U'.heap L ∧ FrameEnd s o U' L ({ frames := 0, cells := 0, slots := 0, locals := 0 } : Room).cells ({ frames := 0, cells := 0, slots := 0, locals := 0 } : Room).slots) pre0 ?_
  obtain ⟨T1, X1, e1, st1⟩ := getS X0 hx hZ (host := "") hown (hw _ (List.mem_of_getElem? (i := 24) rfl)) Via.refl e0 S_String_COMPACT_STRINGS (g := (mkF m 0 #[.val (.ref a1)] [])) rfl (hb hby d15_0)
  have h2 : ¬ (cz = (0 : Int32)) := hcz
  obtain ⟨T3, X3, e3, st3⟩ := getF X1 hx hZ hown (host := "") (Or.inl (hw _ (List.mem_of_getElem? (i := 36) rfl))) Via.refl e1 F_a1_coder (g := (mkF m 7 #[.val (.ref a1)] [(.ref a1)])) rfl rfl (hb hby d15_7)
  have h4 : (0 : Int32) = (0 : Int32) := by decide
  obtain ⟨fs, hr, hrun, hended, hW, hsame⟩ := X3.leave (v := some (.int (1 : Int32))) (fun h => by rw [Bd.returns] at h; cases h)
  refine ⟨_, _, ?_, hrun, hended, _, _, rfl, ?_, ⟨_, rfl⟩, hW, hsame.mono (by decide) (by decide)⟩
  · show Steps p.tables e below (s₁.setTop (mkF m 0 #[.val (.ref a1)] [])) _
    refine st1 _ ?_
    show Steps p.tables e below (T1.setTop (mkF m 3 #[.val (.ref a1)] [(.int cz)])) _
    refine XS.ifNo X1.here hx rfl (hb hby d15_3) rfl ((if0 _ _).trans (feq h2).1) ?_
    show Steps p.tables e below (T1.setTop (mkF m 6 #[.val (.ref a1)] [])) _
    refine XS.aloadN X1.here hx rfl (hb hby d15_6) rfl rfl ?_
    show Steps p.tables e below (T1.setTop (mkF m 7 #[.val (.ref a1)] [(.ref a1)])) _
    refine st3 _ ?_
    show Steps p.tables e below (T3.setTop (mkF m 10 #[.val (.ref a1)] [(.int (0 : Int32))])) _
    refine XS.ifNo X3.here hx rfl (hb hby d15_10) rfl ((if0 _ _).trans (teq h4).2) ?_
    show Steps p.tables e below (T3.setTop (mkF m 13 #[.val (.ref a1)] [])) _
    refine XS.iconst X3.here hx rfl (hb hby d15_13) ?_
    show Steps p.tables e below (T3.setTop (mkF m 14 #[.val (.ref a1)] [(.int (1 : Int32))])) _
    refine XS.goto X3.here hx rfl (pc0 := 14) (pc' := 18) rfl (hb hby d15_14) (by decide) (by decide) ?_
    show Steps p.tables e below (T3.setTop (mkF m 18 #[.val (.ref a1)] [(.int (1 : Int32))])) _
    exact retN X3 hx (t := .boolean) Bd.returns (by simp) (hb hby d15_18) hr
  · show Qisl Z a1 cz h0 n0 _ T3.heap _
    rw [e3]
    have hf : fisl cz = (1 : Int32) := rfl
    exact ⟨by rw [hf], N0, rfl⟩
theorem d14_0 : decode jdk_42_method_57_code 0 = .ok (.aload_n 0, 1) := by decide +kernel
theorem d14_1 : decode jdk_42_method_57_code 1 = .ok (.invokevirtual 492, 3) := by decide +kernel
theorem d14_4 : decode jdk_42_method_57_code 4 = .ok (.ifCond .eq 23, 3) := by decide +kernel
theorem d14_7 : decode jdk_42_method_57_code 7 = .ok (.iload_n 1, 1) := by decide +kernel
theorem d14_8 : decode jdk_42_method_57_code 8 = .ok (.aload_n 0, 1) := by decide +kernel
theorem d14_9 : decode jdk_42_method_57_code 9 = .ok (.getfield 9, 3) := by decide +kernel
theorem d14_12 : decode jdk_42_method_57_code 12 = .ok (.arraylength, 1) := by decide +kernel
theorem d14_13 : decode jdk_42_method_57_code 13 = .ok (.invokestatic 499, 3) := by decide +kernel
theorem d14_16 : decode jdk_42_method_57_code 16 = .ok (.aload_n 0, 1) := by decide +kernel
theorem d14_17 : decode jdk_42_method_57_code 17 = .ok (.getfield 9, 3) := by decide +kernel
theorem d14_20 : decode jdk_42_method_57_code 20 = .ok (.iload_n 1, 1) := by decide +kernel
theorem d14_21 : decode jdk_42_method_57_code 21 = .ok (.baload, 1) := by decide +kernel
theorem d14_22 : decode jdk_42_method_57_code 22 = .ok (.sipush 255, 3) := by decide +kernel
theorem d14_25 : decode jdk_42_method_57_code 25 = .ok (.iand, 1) := by decide +kernel
theorem d14_26 : decode jdk_42_method_57_code 26 = .ok (.ireturn, 1) := by decide +kernel
theorem pn_cp10 : plainName "java/lang/String" = true := by first | (simp [plainName, overriddenIn]; done) | decide +kernel
theorem ef_cp10 (m : MethodId) (a1 : Addr) : entryFrame m #[(.ref a1), (.int (0 : Int32))] 3 = mkF m 0 #[.val (.ref a1), .val (.int (0 : Int32)), .unset] [] := by first | (simp [entryFrame, mkF, argsToLocals, Value.category]; done) | rfl
def Qcp10 (Z : State) (a1 : Addr) (c0 : Int32) (cz : Int32) (sf : Value) (h0 : Heap) (n0 : Nat) (v : Option Value) (h : Heap) (L : List Loc) : Prop := v = some (.int (fcp10 c0 cz)) ∧ Fr n0 L ∧ h = h0
set_option maxRecDepth 65536 in
set_option maxHeartbeats 40000000 in
theorem rmcp10 (l : Launch) (Z : State) (a0 : Array Value) (hw : ∀ d ∈ tables_1, d.before a0 Z = true) (ws : List Jvm.Cond) (a1 : Addr) (c0 : Int32) (cz : Int32) (sf : Value) (h0 : Heap) (n0 : Nat) (Z0 : n0 ≤ h0.size) (OLD : Old Z n0 h0) (T_a1 : own_Str Z h0 a1 ([c0] : List Int32)) (hCS : Sta Z Z.heap "java/lang/String" "COMPACT_STRINGS" "Z" (.int cz)) (hcz : ¬ cz = 0) (hSF : Sta Z Z.heap "jdk/internal/util/Preconditions" "SIOOBE_FORMATTER" "Ljava/util/function/BiFunction;" sf) (hsf : sf = .null ∨ ∃ g, sf = .ref g) :
    MetFree l (⟨"java/lang/String", "codePointAt", "(I)I"⟩ : MethodName) (head1 (Jvm.Cond.code (⟨"java/lang/String", "codePointAt", "(I)I"⟩ : MethodName) jdk_42_method_57_code 3 (some .int) :: ws) ({ frames := 2, cells := 0, slots := 0, locals := 27 } : Room)) (fun a U => a = #[(.ref a1), (.int (0 : Int32))] ∧ Z.Warmed39 U.vm ∧ U.heap = h0) (fun _ _ _ _ _ => True) (fun _ U o U' => ∃ v L, o = .returned v ∧ Qcp10 Z a1 c0 cz sf h0 n0 v U'.heap L ∧ FrameEnd U o U' L ({ frames := 2, cells := 0, slots := 0, locals := 27 } : Room).cells ({ frames := 2, cells := 0, slots := 0, locals := 27 } : Room).slots) := by
  refine MetFree.of_bodySF (plainFor_of_name pn_cp10) hisR ?_
  intro p e s m args below meth c s₁ Bd hml0 hP hK
  obtain ⟨rfl, hZ, hh⟩ := hP
  have hx := Bd.exec
  have hby := Bd.bytes
  have hml : c.maxLocals = 3 := hml0
  have hown : s.vm.findClass "java/lang/String" = some m.cls := findClass_of_methodNamed Bd.named
  have hnm := (name_of_methodNamed Bd.named Bd.method).1
  have X0 : Stand p l e ({ frames := 2, cells := 0, slots := 0, locals := 27 } : Room) s m #[(.ref a1), (.int (0 : Int32))] below meth c s₁ [] 0 0 := Stand.of_body Bd
  have e0 : s₁.heap = h0 := by rw [← hh, Bd.state]; rfl
  have N0 := Fr.nil n0
  have pre0 : ∀ t, Steps p.tables e below (s₁.setTop (mkF m 0 #[.val (.ref a1), .val (.int (0 : Int32)), .unset] [])) t → Steps p.tables e below (s₁.setTop (entryFrame m #[(.ref a1), (.int (0 : Int32))] 3)) t := fun t k => castTop (ef_cp10 m a1) k
  refine own_step (Q := fun o U' => ∃ v L, o = .returned v ∧ Qcp10 Z a1 c0 cz sf h0 n0 v U'.heap L ∧ FrameEnd s o U' L ({ frames := 2, cells := 0, slots := 0, locals := 27 } : Room).cells ({ frames := 2, cells := 0, slots := 0, locals := 27 } : Room).slots) pre0 ?_
  obtain ⟨ta, ka, xa, fa, ga, ra⟩ := own_Str.op T_a1
  have rb : Arv Z h0 ta ka .byte (1 : Int32) [(.int c0.toInt8.toInt32)] (.int (0 : Int32)) := ra
  have S_cs := Sta.ext OLD.2 hCS
  obtain ⟨cq1, kq1, q1a, q1b, q1c⟩ := isOf hZ e0 (own_Str.exa T_a1)
  obtain ⟨_, _, ⟨T1, L1, k1, n1⟩, -, X1, ⟨Lc1, hQ1, l1, y1, z1⟩, st1⟩ := X0.virtualBack hx (y := (⟨"java/lang/String", "isLatin1", "()Z"⟩ : MethodName)) (z := (⟨"java/lang/String", "isLatin1", "()Z"⟩ : MethodName)) hown (mvT hZ (hw _ (List.mem_of_getElem? (i := 71) rfl))) (mvT hZ (hw _ (List.mem_of_getElem? (i := 72) rfl))) (notFace_of_selects (args := #[]) (mvT hZ (hw _ (List.mem_of_getElem? (i := 74) rfl)))) (mvT hZ (hw _ (List.mem_of_getElem? (i := 74) rfl))) (mvT hZ (hw _ (List.mem_of_getElem? (i := 73) rfl))) (by decide) (backOf (W := 0) (rmisl l Z a0 hw [] a1 cz h0 n0 Z0 ga S_cs hcz) hZ (hw _ (List.mem_of_getElem? (i := 75) rfl)) (hw _ (List.mem_of_getElem? (i := 12) rfl)) (by decide) (by decide)) q1a q1c (g := (mkF m 1 #[.val (.ref a1), .val (.int (0 : Int32)), .unset] [(.ref a1)])) rfl (by rw [hml]; rfl) (Steps.refl _) (argsL := []) (rest := []) (lenOf pd_1 rfl) rfl (by show 2 * 0 + _ ≤ _; exact Nat.le_of_eq rfl) (hb hby d14_1) (fun _ _ => ⟨rfl, e0, (by decide : 0 + 0 ≤ _), (by decide : 0 + 0 ≤ _)⟩)
  dsimp only [Pt.U, Pt.locs, Pt.cells, Pt.slots] at X1 l1 y1 z1 st1 hQ1
  subst l1 y1 z1
  obtain ⟨rfl, N1q, e1⟩ := hQ1
  have N1 := Fr.app N0 N1q
  have h2 : ¬ ((fisl cz) = (0 : Int32)) := (by show ¬ ((1 : Int32) = 0); decide)
  obtain ⟨T3, X3, e3, st3⟩ := getF X1 hx hZ hown (host := "") (Or.inl (hw _ (List.mem_of_getElem? (i := 38) rfl))) Via.refl e1 fa (g := (mkF m 9 #[.val (.ref a1), .val (.int (0 : Int32)), .unset] [(.ref a1), (.int (0 : Int32))])) rfl rfl (hb hby d14_9)
  obtain ⟨cl4, Ar4, -, S4, M4, -, -⟩ := id rb
  obtain ⟨_, _, ⟨T5, L5, k5, n5⟩, -, X5, ⟨Lc5, hQ5, l5, y5, z5⟩, st5⟩ := Jvm.LawKit.callS X3 hx (y := (⟨"java/lang/String", "checkIndex", "(II)V"⟩ : MethodName)) hown (mvT hZ (hw _ (List.mem_of_getElem? (i := 76) rfl))) (mvT hZ (hw _ (List.mem_of_getElem? (i := 77) rfl))) (mvT hZ (hw _ (List.mem_of_getElem? (i := 12) rfl))) (mvT hZ (hw _ (List.mem_of_getElem? (i := 78) rfl))) (by decide) (backOf (W := 0) (rmci l Z a0 hw [] (0 : Int32) (1 : Int32) sf h0 n0 Z0 hsf (Sta.ext OLD.2 hSF) (by decide) (by decide)) hZ (hw _ (List.mem_of_getElem? (i := 78) rfl)) (hw _ (List.mem_of_getElem? (i := 12) rfl)) (by decide) (by decide)) (g := (mkF m 13 #[.val (.ref a1), .val (.int (0 : Int32)), .unset] [(.int (1 : Int32)), (.int (0 : Int32))])) rfl (by rw [hml]; rfl) (argsL := [(.int (0 : Int32)), (.int (1 : Int32))]) (rest := []) (lenOf pd_2 rfl) rfl (by show 2 * 0 + _ ≤ _; exact Nat.le_of_eq rfl) (hb hby d14_13) (fun _ _ => ⟨rfl, e3, (by decide : 0 + 0 ≤ _), (by decide : 0 + 0 ≤ _)⟩)
  dsimp only [Pt.U, Pt.locs, Pt.cells, Pt.slots] at X5 l5 y5 z5 st5 hQ5
  subst l5 y5 z5
  obtain ⟨rfl, N5q, e5⟩ := hQ5
  have N5 := Fr.app N1 N5q
  obtain ⟨T6, X6, e6, st6⟩ := getF X5 hx hZ hown (host := "") (Or.inl (hw _ (List.mem_of_getElem? (i := 38) rfl))) Via.refl e5 fa (g := (mkF m 17 #[.val (.ref a1), .val (.int (0 : Int32)), .unset] [(.ref a1)])) rfl rfl (hb hby d14_17)
  obtain ⟨cl7, Ar7, -, S7, M7, H7, -⟩ := id rb
  have hin7 := inb_of (j := (0 : Int32)) S7 (by decide)
  have hat7 := H7.at hin7 (v := (.int c0.toInt8.toInt32)) (rfl)
  obtain ⟨fs, hr, hrun, hended, hW, hsame⟩ := X6.leave (v := some (.int (c0.toInt8.toInt32 &&& (255 : Int32)))) (fun h => by rw [Bd.returns] at h; cases h)
  refine ⟨_, _, ?_, hrun, hended, _, _, rfl, ?_, ⟨_, rfl⟩, hW, hsame.mono (by decide) (by decide)⟩
  · show Steps p.tables e below (s₁.setTop (mkF m 0 #[.val (.ref a1), .val (.int (0 : Int32)), .unset] [])) _
    refine XS.aloadN X0.here hx rfl (hb hby d14_0) rfl rfl ?_
    show Steps p.tables e below (s₁.setTop (mkF m 1 #[.val (.ref a1), .val (.int (0 : Int32)), .unset] [(.ref a1)])) _
    refine st1.trans ?_
    show Steps p.tables e below (T1.setTop (mkF m 4 #[.val (.ref a1), .val (.int (0 : Int32)), .unset] [(.int (fisl cz))])) _
    refine XS.ifNo X1.here hx rfl (hb hby d14_4) rfl ((if0 _ _).trans (feq h2).1) ?_
    show Steps p.tables e below (T1.setTop (mkF m 7 #[.val (.ref a1), .val (.int (0 : Int32)), .unset] [])) _
    refine XS.iloadN X1.here hx rfl (hb hby d14_7) rfl ?_
    show Steps p.tables e below (T1.setTop (mkF m 8 #[.val (.ref a1), .val (.int (0 : Int32)), .unset] [(.int (0 : Int32))])) _
    refine XS.aloadN X1.here hx rfl (hb hby d14_8) rfl rfl ?_
    show Steps p.tables e below (T1.setTop (mkF m 9 #[.val (.ref a1), .val (.int (0 : Int32)), .unset] [(.ref a1), (.int (0 : Int32))])) _
    refine st3 _ ?_
    show Steps p.tables e below (T3.setTop (mkF m 12 #[.val (.ref a1), .val (.int (0 : Int32)), .unset] [(.ref ta), (.int (0 : Int32))])) _
    refine X3.arraylength hx (by rw [e3]; exact Ar4.1) (State.isArrayOf_alike hZ.alike Ar4.2.1) (g := (mkF m 12 #[.val (.ref a1), .val (.int (0 : Int32)), .unset] [(.ref ta), (.int (0 : Int32))])) rfl rfl (hb hby d14_12) _ ?_
    rw [len_of S4 M4]
    show Steps p.tables e below (T3.setTop (mkF m 13 #[.val (.ref a1), .val (.int (0 : Int32)), .unset] [(.int (1 : Int32)), (.int (0 : Int32))])) _
    refine st5 _ ?_
    show Steps p.tables e below (T5.setTop (mkF m 16 #[.val (.ref a1), .val (.int (0 : Int32)), .unset] [])) _
    refine XS.aloadN X5.here hx rfl (hb hby d14_16) rfl rfl ?_
    show Steps p.tables e below (T5.setTop (mkF m 17 #[.val (.ref a1), .val (.int (0 : Int32)), .unset] [(.ref a1)])) _
    refine st6 _ ?_
    show Steps p.tables e below (T6.setTop (mkF m 20 #[.val (.ref a1), .val (.int (0 : Int32)), .unset] [(.ref ta)])) _
    refine XS.iloadN X6.here hx rfl (hb hby d14_20) rfl ?_
    show Steps p.tables e below (T6.setTop (mkF m 21 #[.val (.ref a1), .val (.int (0 : Int32)), .unset] [(.int (0 : Int32)), (.ref ta)])) _
    refine X6.baloadBytes hx (j := (0 : Int32)) (v := (.int c0.toInt8.toInt32)) (by rw [e6]; exact Ar7.1) (State.isArrayOf_alike hZ.alike Ar7.2.1) Ar7.2.2 hin7 hat7 (g := (mkF m 21 #[.val (.ref a1), .val (.int (0 : Int32)), .unset] [(.int (0 : Int32)), (.ref ta)])) rfl rfl (hb hby d14_21) _ ?_
    show Steps p.tables e below (T6.setTop (mkF m 22 #[.val (.ref a1), .val (.int (0 : Int32)), .unset] [(.int c0.toInt8.toInt32)])) _
    refine XS.sipush X6.here hx rfl (hb hby d14_22) ?_
    show Steps p.tables e below (T6.setTop (mkF m 25 #[.val (.ref a1), .val (.int (0 : Int32)), .unset] [(.int (255 : Int32)), (.int c0.toInt8.toInt32)])) _
    refine XS.iand X6.here hx rfl (hb hby d14_25) rfl ?_
    show Steps p.tables e below (T6.setTop (mkF m 26 #[.val (.ref a1), .val (.int (0 : Int32)), .unset] [(.int (c0.toInt8.toInt32 &&& (255 : Int32)))])) _
    exact retI X6 hx Bd.returns (hb hby d14_26) hr
  · show Qcp10 Z a1 c0 cz sf h0 n0 _ T6.heap _
    rw [e6]
    have hf : fcp10 c0 cz = (c0.toInt8.toInt32 &&& (255 : Int32)) := rfl
    exact ⟨by rw [hf], N5, rfl⟩
theorem pn_cp20 : plainName "java/lang/String" = true := by first | (simp [plainName, overriddenIn]; done) | decide +kernel
theorem ef_cp20 (m : MethodId) (a1 : Addr) : entryFrame m #[(.ref a1), (.int (0 : Int32))] 3 = mkF m 0 #[.val (.ref a1), .val (.int (0 : Int32)), .unset] [] := by first | (simp [entryFrame, mkF, argsToLocals, Value.category]; done) | rfl
def Qcp20 (Z : State) (a1 : Addr) (c0 : Int32) (c1 : Int32) (cz : Int32) (sf : Value) (h0 : Heap) (n0 : Nat) (v : Option Value) (h : Heap) (L : List Loc) : Prop := v = some (.int (fcp20 c0 c1 cz)) ∧ Fr n0 L ∧ h = h0
set_option maxRecDepth 65536 in
set_option maxHeartbeats 40000000 in
theorem rmcp20 (l : Launch) (Z : State) (a0 : Array Value) (hw : ∀ d ∈ tables_1, d.before a0 Z = true) (ws : List Jvm.Cond) (a1 : Addr) (c0 : Int32) (c1 : Int32) (cz : Int32) (sf : Value) (h0 : Heap) (n0 : Nat) (Z0 : n0 ≤ h0.size) (OLD : Old Z n0 h0) (T_a1 : own_Str Z h0 a1 ([c0, c1] : List Int32)) (hCS : Sta Z Z.heap "java/lang/String" "COMPACT_STRINGS" "Z" (.int cz)) (hcz : ¬ cz = 0) (hSF : Sta Z Z.heap "jdk/internal/util/Preconditions" "SIOOBE_FORMATTER" "Ljava/util/function/BiFunction;" sf) (hsf : sf = .null ∨ ∃ g, sf = .ref g) :
    MetFree l (⟨"java/lang/String", "codePointAt", "(I)I"⟩ : MethodName) (head1 (Jvm.Cond.code (⟨"java/lang/String", "codePointAt", "(I)I"⟩ : MethodName) jdk_42_method_57_code 3 (some .int) :: ws) ({ frames := 2, cells := 0, slots := 0, locals := 27 } : Room)) (fun a U => a = #[(.ref a1), (.int (0 : Int32))] ∧ Z.Warmed39 U.vm ∧ U.heap = h0) (fun _ _ _ _ _ => True) (fun _ U o U' => ∃ v L, o = .returned v ∧ Qcp20 Z a1 c0 c1 cz sf h0 n0 v U'.heap L ∧ FrameEnd U o U' L ({ frames := 2, cells := 0, slots := 0, locals := 27 } : Room).cells ({ frames := 2, cells := 0, slots := 0, locals := 27 } : Room).slots) := by
  refine MetFree.of_bodySF (plainFor_of_name pn_cp20) hisR ?_
  intro p e s m args below meth c s₁ Bd hml0 hP hK
  obtain ⟨rfl, hZ, hh⟩ := hP
  have hx := Bd.exec
  have hby := Bd.bytes
  have hml : c.maxLocals = 3 := hml0
  have hown : s.vm.findClass "java/lang/String" = some m.cls := findClass_of_methodNamed Bd.named
  have hnm := (name_of_methodNamed Bd.named Bd.method).1
  have X0 : Stand p l e ({ frames := 2, cells := 0, slots := 0, locals := 27 } : Room) s m #[(.ref a1), (.int (0 : Int32))] below meth c s₁ [] 0 0 := Stand.of_body Bd
  have e0 : s₁.heap = h0 := by rw [← hh, Bd.state]; rfl
  have N0 := Fr.nil n0
  have pre0 : ∀ t, Steps p.tables e below (s₁.setTop (mkF m 0 #[.val (.ref a1), .val (.int (0 : Int32)), .unset] [])) t → Steps p.tables e below (s₁.setTop (entryFrame m #[(.ref a1), (.int (0 : Int32))] 3)) t := fun t k => castTop (ef_cp20 m a1) k
  refine own_step (Q := fun o U' => ∃ v L, o = .returned v ∧ Qcp20 Z a1 c0 c1 cz sf h0 n0 v U'.heap L ∧ FrameEnd s o U' L ({ frames := 2, cells := 0, slots := 0, locals := 27 } : Room).cells ({ frames := 2, cells := 0, slots := 0, locals := 27 } : Room).slots) pre0 ?_
  obtain ⟨ta, ka, xa, fa, ga, ra⟩ := own_Str.op T_a1
  have rb : Arv Z h0 ta ka .byte (2 : Int32) [(.int c0.toInt8.toInt32), (.int c1.toInt8.toInt32)] (.int (0 : Int32)) := ra
  have S_cs := Sta.ext OLD.2 hCS
  obtain ⟨cq1, kq1, q1a, q1b, q1c⟩ := isOf hZ e0 (own_Str.exa T_a1)
  obtain ⟨_, _, ⟨T1, L1, k1, n1⟩, -, X1, ⟨Lc1, hQ1, l1, y1, z1⟩, st1⟩ := X0.virtualBack hx (y := (⟨"java/lang/String", "isLatin1", "()Z"⟩ : MethodName)) (z := (⟨"java/lang/String", "isLatin1", "()Z"⟩ : MethodName)) hown (mvT hZ (hw _ (List.mem_of_getElem? (i := 71) rfl))) (mvT hZ (hw _ (List.mem_of_getElem? (i := 72) rfl))) (notFace_of_selects (args := #[]) (mvT hZ (hw _ (List.mem_of_getElem? (i := 74) rfl)))) (mvT hZ (hw _ (List.mem_of_getElem? (i := 74) rfl))) (mvT hZ (hw _ (List.mem_of_getElem? (i := 73) rfl))) (by decide) (backOf (W := 0) (rmisl l Z a0 hw [] a1 cz h0 n0 Z0 ga S_cs hcz) hZ (hw _ (List.mem_of_getElem? (i := 75) rfl)) (hw _ (List.mem_of_getElem? (i := 12) rfl)) (by decide) (by decide)) q1a q1c (g := (mkF m 1 #[.val (.ref a1), .val (.int (0 : Int32)), .unset] [(.ref a1)])) rfl (by rw [hml]; rfl) (Steps.refl _) (argsL := []) (rest := []) (lenOf pd_1 rfl) rfl (by show 2 * 0 + _ ≤ _; exact Nat.le_of_eq rfl) (hb hby d14_1) (fun _ _ => ⟨rfl, e0, (by decide : 0 + 0 ≤ _), (by decide : 0 + 0 ≤ _)⟩)
  dsimp only [Pt.U, Pt.locs, Pt.cells, Pt.slots] at X1 l1 y1 z1 st1 hQ1
  subst l1 y1 z1
  obtain ⟨rfl, N1q, e1⟩ := hQ1
  have N1 := Fr.app N0 N1q
  have h2 : ¬ ((fisl cz) = (0 : Int32)) := (by show ¬ ((1 : Int32) = 0); decide)
  obtain ⟨T3, X3, e3, st3⟩ := getF X1 hx hZ hown (host := "") (Or.inl (hw _ (List.mem_of_getElem? (i := 38) rfl))) Via.refl e1 fa (g := (mkF m 9 #[.val (.ref a1), .val (.int (0 : Int32)), .unset] [(.ref a1), (.int (0 : Int32))])) rfl rfl (hb hby d14_9)
  obtain ⟨cl4, Ar4, -, S4, M4, -, -⟩ := id rb
  obtain ⟨_, _, ⟨T5, L5, k5, n5⟩, -, X5, ⟨Lc5, hQ5, l5, y5, z5⟩, st5⟩ := Jvm.LawKit.callS X3 hx (y := (⟨"java/lang/String", "checkIndex", "(II)V"⟩ : MethodName)) hown (mvT hZ (hw _ (List.mem_of_getElem? (i := 76) rfl))) (mvT hZ (hw _ (List.mem_of_getElem? (i := 77) rfl))) (mvT hZ (hw _ (List.mem_of_getElem? (i := 12) rfl))) (mvT hZ (hw _ (List.mem_of_getElem? (i := 78) rfl))) (by decide) (backOf (W := 0) (rmci l Z a0 hw [] (0 : Int32) (2 : Int32) sf h0 n0 Z0 hsf (Sta.ext OLD.2 hSF) (by decide) (by decide)) hZ (hw _ (List.mem_of_getElem? (i := 78) rfl)) (hw _ (List.mem_of_getElem? (i := 12) rfl)) (by decide) (by decide)) (g := (mkF m 13 #[.val (.ref a1), .val (.int (0 : Int32)), .unset] [(.int (2 : Int32)), (.int (0 : Int32))])) rfl (by rw [hml]; rfl) (argsL := [(.int (0 : Int32)), (.int (2 : Int32))]) (rest := []) (lenOf pd_2 rfl) rfl (by show 2 * 0 + _ ≤ _; exact Nat.le_of_eq rfl) (hb hby d14_13) (fun _ _ => ⟨rfl, e3, (by decide : 0 + 0 ≤ _), (by decide : 0 + 0 ≤ _)⟩)
  dsimp only [Pt.U, Pt.locs, Pt.cells, Pt.slots] at X5 l5 y5 z5 st5 hQ5
  subst l5 y5 z5
  obtain ⟨rfl, N5q, e5⟩ := hQ5
  have N5 := Fr.app N1 N5q
  obtain ⟨T6, X6, e6, st6⟩ := getF X5 hx hZ hown (host := "") (Or.inl (hw _ (List.mem_of_getElem? (i := 38) rfl))) Via.refl e5 fa (g := (mkF m 17 #[.val (.ref a1), .val (.int (0 : Int32)), .unset] [(.ref a1)])) rfl rfl (hb hby d14_17)
  obtain ⟨cl7, Ar7, -, S7, M7, H7, -⟩ := id rb
  have hin7 := inb_of (j := (0 : Int32)) S7 (by decide)
  have hat7 := H7.at hin7 (v := (.int c0.toInt8.toInt32)) (rfl)
  obtain ⟨fs, hr, hrun, hended, hW, hsame⟩ := X6.leave (v := some (.int (c0.toInt8.toInt32 &&& (255 : Int32)))) (fun h => by rw [Bd.returns] at h; cases h)
  refine ⟨_, _, ?_, hrun, hended, _, _, rfl, ?_, ⟨_, rfl⟩, hW, hsame.mono (by decide) (by decide)⟩
  · show Steps p.tables e below (s₁.setTop (mkF m 0 #[.val (.ref a1), .val (.int (0 : Int32)), .unset] [])) _
    refine XS.aloadN X0.here hx rfl (hb hby d14_0) rfl rfl ?_
    show Steps p.tables e below (s₁.setTop (mkF m 1 #[.val (.ref a1), .val (.int (0 : Int32)), .unset] [(.ref a1)])) _
    refine st1.trans ?_
    show Steps p.tables e below (T1.setTop (mkF m 4 #[.val (.ref a1), .val (.int (0 : Int32)), .unset] [(.int (fisl cz))])) _
    refine XS.ifNo X1.here hx rfl (hb hby d14_4) rfl ((if0 _ _).trans (feq h2).1) ?_
    show Steps p.tables e below (T1.setTop (mkF m 7 #[.val (.ref a1), .val (.int (0 : Int32)), .unset] [])) _
    refine XS.iloadN X1.here hx rfl (hb hby d14_7) rfl ?_
    show Steps p.tables e below (T1.setTop (mkF m 8 #[.val (.ref a1), .val (.int (0 : Int32)), .unset] [(.int (0 : Int32))])) _
    refine XS.aloadN X1.here hx rfl (hb hby d14_8) rfl rfl ?_
    show Steps p.tables e below (T1.setTop (mkF m 9 #[.val (.ref a1), .val (.int (0 : Int32)), .unset] [(.ref a1), (.int (0 : Int32))])) _
    refine st3 _ ?_
    show Steps p.tables e below (T3.setTop (mkF m 12 #[.val (.ref a1), .val (.int (0 : Int32)), .unset] [(.ref ta), (.int (0 : Int32))])) _
    refine X3.arraylength hx (by rw [e3]; exact Ar4.1) (State.isArrayOf_alike hZ.alike Ar4.2.1) (g := (mkF m 12 #[.val (.ref a1), .val (.int (0 : Int32)), .unset] [(.ref ta), (.int (0 : Int32))])) rfl rfl (hb hby d14_12) _ ?_
    rw [len_of S4 M4]
    show Steps p.tables e below (T3.setTop (mkF m 13 #[.val (.ref a1), .val (.int (0 : Int32)), .unset] [(.int (2 : Int32)), (.int (0 : Int32))])) _
    refine st5 _ ?_
    show Steps p.tables e below (T5.setTop (mkF m 16 #[.val (.ref a1), .val (.int (0 : Int32)), .unset] [])) _
    refine XS.aloadN X5.here hx rfl (hb hby d14_16) rfl rfl ?_
    show Steps p.tables e below (T5.setTop (mkF m 17 #[.val (.ref a1), .val (.int (0 : Int32)), .unset] [(.ref a1)])) _
    refine st6 _ ?_
    show Steps p.tables e below (T6.setTop (mkF m 20 #[.val (.ref a1), .val (.int (0 : Int32)), .unset] [(.ref ta)])) _
    refine XS.iloadN X6.here hx rfl (hb hby d14_20) rfl ?_
    show Steps p.tables e below (T6.setTop (mkF m 21 #[.val (.ref a1), .val (.int (0 : Int32)), .unset] [(.int (0 : Int32)), (.ref ta)])) _
    refine X6.baloadBytes hx (j := (0 : Int32)) (v := (.int c0.toInt8.toInt32)) (by rw [e6]; exact Ar7.1) (State.isArrayOf_alike hZ.alike Ar7.2.1) Ar7.2.2 hin7 hat7 (g := (mkF m 21 #[.val (.ref a1), .val (.int (0 : Int32)), .unset] [(.int (0 : Int32)), (.ref ta)])) rfl rfl (hb hby d14_21) _ ?_
    show Steps p.tables e below (T6.setTop (mkF m 22 #[.val (.ref a1), .val (.int (0 : Int32)), .unset] [(.int c0.toInt8.toInt32)])) _
    refine XS.sipush X6.here hx rfl (hb hby d14_22) ?_
    show Steps p.tables e below (T6.setTop (mkF m 25 #[.val (.ref a1), .val (.int (0 : Int32)), .unset] [(.int (255 : Int32)), (.int c0.toInt8.toInt32)])) _
    refine XS.iand X6.here hx rfl (hb hby d14_25) rfl ?_
    show Steps p.tables e below (T6.setTop (mkF m 26 #[.val (.ref a1), .val (.int (0 : Int32)), .unset] [(.int (c0.toInt8.toInt32 &&& (255 : Int32)))])) _
    exact retI X6 hx Bd.returns (hb hby d14_26) hr
  · show Qcp20 Z a1 c0 c1 cz sf h0 n0 _ T6.heap _
    rw [e6]
    have hf : fcp20 c0 c1 cz = (c0.toInt8.toInt32 &&& (255 : Int32)) := rfl
    exact ⟨by rw [hf], N5, rfl⟩
theorem pn_cp21 : plainName "java/lang/String" = true := by first | (simp [plainName, overriddenIn]; done) | decide +kernel
theorem ef_cp21 (m : MethodId) (a1 : Addr) : entryFrame m #[(.ref a1), (.int (1 : Int32))] 3 = mkF m 0 #[.val (.ref a1), .val (.int (1 : Int32)), .unset] [] := by first | (simp [entryFrame, mkF, argsToLocals, Value.category]; done) | rfl
def Qcp21 (Z : State) (a1 : Addr) (c0 : Int32) (c1 : Int32) (cz : Int32) (sf : Value) (h0 : Heap) (n0 : Nat) (v : Option Value) (h : Heap) (L : List Loc) : Prop := v = some (.int (fcp21 c0 c1 cz)) ∧ Fr n0 L ∧ h = h0
set_option maxRecDepth 65536 in
set_option maxHeartbeats 40000000 in
theorem rmcp21 (l : Launch) (Z : State) (a0 : Array Value) (hw : ∀ d ∈ tables_1, d.before a0 Z = true) (ws : List Jvm.Cond) (a1 : Addr) (c0 : Int32) (c1 : Int32) (cz : Int32) (sf : Value) (h0 : Heap) (n0 : Nat) (Z0 : n0 ≤ h0.size) (OLD : Old Z n0 h0) (T_a1 : own_Str Z h0 a1 ([c0, c1] : List Int32)) (hCS : Sta Z Z.heap "java/lang/String" "COMPACT_STRINGS" "Z" (.int cz)) (hcz : ¬ cz = 0) (hSF : Sta Z Z.heap "jdk/internal/util/Preconditions" "SIOOBE_FORMATTER" "Ljava/util/function/BiFunction;" sf) (hsf : sf = .null ∨ ∃ g, sf = .ref g) :
    MetFree l (⟨"java/lang/String", "codePointAt", "(I)I"⟩ : MethodName) (head1 (Jvm.Cond.code (⟨"java/lang/String", "codePointAt", "(I)I"⟩ : MethodName) jdk_42_method_57_code 3 (some .int) :: ws) ({ frames := 2, cells := 0, slots := 0, locals := 27 } : Room)) (fun a U => a = #[(.ref a1), (.int (1 : Int32))] ∧ Z.Warmed39 U.vm ∧ U.heap = h0) (fun _ _ _ _ _ => True) (fun _ U o U' => ∃ v L, o = .returned v ∧ Qcp21 Z a1 c0 c1 cz sf h0 n0 v U'.heap L ∧ FrameEnd U o U' L ({ frames := 2, cells := 0, slots := 0, locals := 27 } : Room).cells ({ frames := 2, cells := 0, slots := 0, locals := 27 } : Room).slots) := by
  refine MetFree.of_bodySF (plainFor_of_name pn_cp21) hisR ?_
  intro p e s m args below meth c s₁ Bd hml0 hP hK
  obtain ⟨rfl, hZ, hh⟩ := hP
  have hx := Bd.exec
  have hby := Bd.bytes
  have hml : c.maxLocals = 3 := hml0
  have hown : s.vm.findClass "java/lang/String" = some m.cls := findClass_of_methodNamed Bd.named
  have hnm := (name_of_methodNamed Bd.named Bd.method).1
  have X0 : Stand p l e ({ frames := 2, cells := 0, slots := 0, locals := 27 } : Room) s m #[(.ref a1), (.int (1 : Int32))] below meth c s₁ [] 0 0 := Stand.of_body Bd
  have e0 : s₁.heap = h0 := by rw [← hh, Bd.state]; rfl
  have N0 := Fr.nil n0
  have pre0 : ∀ t, Steps p.tables e below (s₁.setTop (mkF m 0 #[.val (.ref a1), .val (.int (1 : Int32)), .unset] [])) t → Steps p.tables e below (s₁.setTop (entryFrame m #[(.ref a1), (.int (1 : Int32))] 3)) t := fun t k => castTop (ef_cp21 m a1) k
  refine own_step (Q := fun o U' => ∃ v L, o = .returned v ∧ Qcp21 Z a1 c0 c1 cz sf h0 n0 v U'.heap L ∧ FrameEnd s o U' L ({ frames := 2, cells := 0, slots := 0, locals := 27 } : Room).cells ({ frames := 2, cells := 0, slots := 0, locals := 27 } : Room).slots) pre0 ?_
  obtain ⟨ta, ka, xa, fa, ga, ra⟩ := own_Str.op T_a1
  have rb : Arv Z h0 ta ka .byte (2 : Int32) [(.int c0.toInt8.toInt32), (.int c1.toInt8.toInt32)] (.int (0 : Int32)) := ra
  have S_cs := Sta.ext OLD.2 hCS
  obtain ⟨cq1, kq1, q1a, q1b, q1c⟩ := isOf hZ e0 (own_Str.exa T_a1)
  obtain ⟨_, _, ⟨T1, L1, k1, n1⟩, -, X1, ⟨Lc1, hQ1, l1, y1, z1⟩, st1⟩ := X0.virtualBack hx (y := (⟨"java/lang/String", "isLatin1", "()Z"⟩ : MethodName)) (z := (⟨"java/lang/String", "isLatin1", "()Z"⟩ : MethodName)) hown (mvT hZ (hw _ (List.mem_of_getElem? (i := 71) rfl))) (mvT hZ (hw _ (List.mem_of_getElem? (i := 72) rfl))) (notFace_of_selects (args := #[]) (mvT hZ (hw _ (List.mem_of_getElem? (i := 74) rfl)))) (mvT hZ (hw _ (List.mem_of_getElem? (i := 74) rfl))) (mvT hZ (hw _ (List.mem_of_getElem? (i := 73) rfl))) (by decide) (backOf (W := 0) (rmisl l Z a0 hw [] a1 cz h0 n0 Z0 ga S_cs hcz) hZ (hw _ (List.mem_of_getElem? (i := 75) rfl)) (hw _ (List.mem_of_getElem? (i := 12) rfl)) (by decide) (by decide)) q1a q1c (g := (mkF m 1 #[.val (.ref a1), .val (.int (1 : Int32)), .unset] [(.ref a1)])) rfl (by rw [hml]; rfl) (Steps.refl _) (argsL := []) (rest := []) (lenOf pd_1 rfl) rfl (by show 2 * 0 + _ ≤ _; exact Nat.le_of_eq rfl) (hb hby d14_1) (fun _ _ => ⟨rfl, e0, (by decide : 0 + 0 ≤ _), (by decide : 0 + 0 ≤ _)⟩)
  dsimp only [Pt.U, Pt.locs, Pt.cells, Pt.slots] at X1 l1 y1 z1 st1 hQ1
  subst l1 y1 z1
  obtain ⟨rfl, N1q, e1⟩ := hQ1
  have N1 := Fr.app N0 N1q
  have h2 : ¬ ((fisl cz) = (0 : Int32)) := (by show ¬ ((1 : Int32) = 0); decide)
  obtain ⟨T3, X3, e3, st3⟩ := getF X1 hx hZ hown (host := "") (Or.inl (hw _ (List.mem_of_getElem? (i := 38) rfl))) Via.refl e1 fa (g := (mkF m 9 #[.val (.ref a1), .val (.int (1 : Int32)), .unset] [(.ref a1), (.int (1 : Int32))])) rfl rfl (hb hby d14_9)
  obtain ⟨cl4, Ar4, -, S4, M4, -, -⟩ := id rb
  obtain ⟨_, _, ⟨T5, L5, k5, n5⟩, -, X5, ⟨Lc5, hQ5, l5, y5, z5⟩, st5⟩ := Jvm.LawKit.callS X3 hx (y := (⟨"java/lang/String", "checkIndex", "(II)V"⟩ : MethodName)) hown (mvT hZ (hw _ (List.mem_of_getElem? (i := 76) rfl))) (mvT hZ (hw _ (List.mem_of_getElem? (i := 77) rfl))) (mvT hZ (hw _ (List.mem_of_getElem? (i := 12) rfl))) (mvT hZ (hw _ (List.mem_of_getElem? (i := 78) rfl))) (by decide) (backOf (W := 0) (rmci l Z a0 hw [] (1 : Int32) (2 : Int32) sf h0 n0 Z0 hsf (Sta.ext OLD.2 hSF) (by decide) (by decide)) hZ (hw _ (List.mem_of_getElem? (i := 78) rfl)) (hw _ (List.mem_of_getElem? (i := 12) rfl)) (by decide) (by decide)) (g := (mkF m 13 #[.val (.ref a1), .val (.int (1 : Int32)), .unset] [(.int (2 : Int32)), (.int (1 : Int32))])) rfl (by rw [hml]; rfl) (argsL := [(.int (1 : Int32)), (.int (2 : Int32))]) (rest := []) (lenOf pd_2 rfl) rfl (by show 2 * 0 + _ ≤ _; exact Nat.le_of_eq rfl) (hb hby d14_13) (fun _ _ => ⟨rfl, e3, (by decide : 0 + 0 ≤ _), (by decide : 0 + 0 ≤ _)⟩)
  dsimp only [Pt.U, Pt.locs, Pt.cells, Pt.slots] at X5 l5 y5 z5 st5 hQ5
  subst l5 y5 z5
  obtain ⟨rfl, N5q, e5⟩ := hQ5
  have N5 := Fr.app N1 N5q
  obtain ⟨T6, X6, e6, st6⟩ := getF X5 hx hZ hown (host := "") (Or.inl (hw _ (List.mem_of_getElem? (i := 38) rfl))) Via.refl e5 fa (g := (mkF m 17 #[.val (.ref a1), .val (.int (1 : Int32)), .unset] [(.ref a1)])) rfl rfl (hb hby d14_17)
  obtain ⟨cl7, Ar7, -, S7, M7, H7, -⟩ := id rb
  have hin7 := inb_of (j := (1 : Int32)) S7 (by decide)
  have hat7 := H7.at hin7 (v := (.int c1.toInt8.toInt32)) (rfl)
  obtain ⟨fs, hr, hrun, hended, hW, hsame⟩ := X6.leave (v := some (.int (c1.toInt8.toInt32 &&& (255 : Int32)))) (fun h => by rw [Bd.returns] at h; cases h)
  refine ⟨_, _, ?_, hrun, hended, _, _, rfl, ?_, ⟨_, rfl⟩, hW, hsame.mono (by decide) (by decide)⟩
  · show Steps p.tables e below (s₁.setTop (mkF m 0 #[.val (.ref a1), .val (.int (1 : Int32)), .unset] [])) _
    refine XS.aloadN X0.here hx rfl (hb hby d14_0) rfl rfl ?_
    show Steps p.tables e below (s₁.setTop (mkF m 1 #[.val (.ref a1), .val (.int (1 : Int32)), .unset] [(.ref a1)])) _
    refine st1.trans ?_
    show Steps p.tables e below (T1.setTop (mkF m 4 #[.val (.ref a1), .val (.int (1 : Int32)), .unset] [(.int (fisl cz))])) _
    refine XS.ifNo X1.here hx rfl (hb hby d14_4) rfl ((if0 _ _).trans (feq h2).1) ?_
    show Steps p.tables e below (T1.setTop (mkF m 7 #[.val (.ref a1), .val (.int (1 : Int32)), .unset] [])) _
    refine XS.iloadN X1.here hx rfl (hb hby d14_7) rfl ?_
    show Steps p.tables e below (T1.setTop (mkF m 8 #[.val (.ref a1), .val (.int (1 : Int32)), .unset] [(.int (1 : Int32))])) _
    refine XS.aloadN X1.here hx rfl (hb hby d14_8) rfl rfl ?_
    show Steps p.tables e below (T1.setTop (mkF m 9 #[.val (.ref a1), .val (.int (1 : Int32)), .unset] [(.ref a1), (.int (1 : Int32))])) _
    refine st3 _ ?_
    show Steps p.tables e below (T3.setTop (mkF m 12 #[.val (.ref a1), .val (.int (1 : Int32)), .unset] [(.ref ta), (.int (1 : Int32))])) _
    refine X3.arraylength hx (by rw [e3]; exact Ar4.1) (State.isArrayOf_alike hZ.alike Ar4.2.1) (g := (mkF m 12 #[.val (.ref a1), .val (.int (1 : Int32)), .unset] [(.ref ta), (.int (1 : Int32))])) rfl rfl (hb hby d14_12) _ ?_
    rw [len_of S4 M4]
    show Steps p.tables e below (T3.setTop (mkF m 13 #[.val (.ref a1), .val (.int (1 : Int32)), .unset] [(.int (2 : Int32)), (.int (1 : Int32))])) _
    refine st5 _ ?_
    show Steps p.tables e below (T5.setTop (mkF m 16 #[.val (.ref a1), .val (.int (1 : Int32)), .unset] [])) _
    refine XS.aloadN X5.here hx rfl (hb hby d14_16) rfl rfl ?_
    show Steps p.tables e below (T5.setTop (mkF m 17 #[.val (.ref a1), .val (.int (1 : Int32)), .unset] [(.ref a1)])) _
    refine st6 _ ?_
    show Steps p.tables e below (T6.setTop (mkF m 20 #[.val (.ref a1), .val (.int (1 : Int32)), .unset] [(.ref ta)])) _
    refine XS.iloadN X6.here hx rfl (hb hby d14_20) rfl ?_
    show Steps p.tables e below (T6.setTop (mkF m 21 #[.val (.ref a1), .val (.int (1 : Int32)), .unset] [(.int (1 : Int32)), (.ref ta)])) _
    refine X6.baloadBytes hx (j := (1 : Int32)) (v := (.int c1.toInt8.toInt32)) (by rw [e6]; exact Ar7.1) (State.isArrayOf_alike hZ.alike Ar7.2.1) Ar7.2.2 hin7 hat7 (g := (mkF m 21 #[.val (.ref a1), .val (.int (1 : Int32)), .unset] [(.int (1 : Int32)), (.ref ta)])) rfl rfl (hb hby d14_21) _ ?_
    show Steps p.tables e below (T6.setTop (mkF m 22 #[.val (.ref a1), .val (.int (1 : Int32)), .unset] [(.int c1.toInt8.toInt32)])) _
    refine XS.sipush X6.here hx rfl (hb hby d14_22) ?_
    show Steps p.tables e below (T6.setTop (mkF m 25 #[.val (.ref a1), .val (.int (1 : Int32)), .unset] [(.int (255 : Int32)), (.int c1.toInt8.toInt32)])) _
    refine XS.iand X6.here hx rfl (hb hby d14_25) rfl ?_
    show Steps p.tables e below (T6.setTop (mkF m 26 #[.val (.ref a1), .val (.int (1 : Int32)), .unset] [(.int (c1.toInt8.toInt32 &&& (255 : Int32)))])) _
    exact retI X6 hx Bd.returns (hb hby d14_26) hr
  · show Qcp21 Z a1 c0 c1 cz sf h0 n0 _ T6.heap _
    rw [e6]
    have hf : fcp21 c0 c1 cz = (c1.toInt8.toInt32 &&& (255 : Int32)) := rfl
    exact ⟨by rw [hf], N5, rfl⟩
theorem pn_cp30 : plainName "java/lang/String" = true := by first | (simp [plainName, overriddenIn]; done) | decide +kernel
theorem ef_cp30 (m : MethodId) (a1 : Addr) : entryFrame m #[(.ref a1), (.int (0 : Int32))] 3 = mkF m 0 #[.val (.ref a1), .val (.int (0 : Int32)), .unset] [] := by first | (simp [entryFrame, mkF, argsToLocals, Value.category]; done) | rfl
def Qcp30 (Z : State) (a1 : Addr) (c0 : Int32) (c1 : Int32) (c2 : Int32) (cz : Int32) (sf : Value) (h0 : Heap) (n0 : Nat) (v : Option Value) (h : Heap) (L : List Loc) : Prop := v = some (.int (fcp30 c0 c1 c2 cz)) ∧ Fr n0 L ∧ h = h0
set_option maxRecDepth 65536 in
set_option maxHeartbeats 40000000 in
theorem rmcp30 (l : Launch) (Z : State) (a0 : Array Value) (hw : ∀ d ∈ tables_1, d.before a0 Z = true) (ws : List Jvm.Cond) (a1 : Addr) (c0 : Int32) (c1 : Int32) (c2 : Int32) (cz : Int32) (sf : Value) (h0 : Heap) (n0 : Nat) (Z0 : n0 ≤ h0.size) (OLD : Old Z n0 h0) (T_a1 : own_Str Z h0 a1 ([c0, c1, c2] : List Int32)) (hCS : Sta Z Z.heap "java/lang/String" "COMPACT_STRINGS" "Z" (.int cz)) (hcz : ¬ cz = 0) (hSF : Sta Z Z.heap "jdk/internal/util/Preconditions" "SIOOBE_FORMATTER" "Ljava/util/function/BiFunction;" sf) (hsf : sf = .null ∨ ∃ g, sf = .ref g) :
    MetFree l (⟨"java/lang/String", "codePointAt", "(I)I"⟩ : MethodName) (head1 (Jvm.Cond.code (⟨"java/lang/String", "codePointAt", "(I)I"⟩ : MethodName) jdk_42_method_57_code 3 (some .int) :: ws) ({ frames := 2, cells := 0, slots := 0, locals := 27 } : Room)) (fun a U => a = #[(.ref a1), (.int (0 : Int32))] ∧ Z.Warmed39 U.vm ∧ U.heap = h0) (fun _ _ _ _ _ => True) (fun _ U o U' => ∃ v L, o = .returned v ∧ Qcp30 Z a1 c0 c1 c2 cz sf h0 n0 v U'.heap L ∧ FrameEnd U o U' L ({ frames := 2, cells := 0, slots := 0, locals := 27 } : Room).cells ({ frames := 2, cells := 0, slots := 0, locals := 27 } : Room).slots) := by
  refine MetFree.of_bodySF (plainFor_of_name pn_cp30) hisR ?_
  intro p e s m args below meth c s₁ Bd hml0 hP hK
  obtain ⟨rfl, hZ, hh⟩ := hP
  have hx := Bd.exec
  have hby := Bd.bytes
  have hml : c.maxLocals = 3 := hml0
  have hown : s.vm.findClass "java/lang/String" = some m.cls := findClass_of_methodNamed Bd.named
  have hnm := (name_of_methodNamed Bd.named Bd.method).1
  have X0 : Stand p l e ({ frames := 2, cells := 0, slots := 0, locals := 27 } : Room) s m #[(.ref a1), (.int (0 : Int32))] below meth c s₁ [] 0 0 := Stand.of_body Bd
  have e0 : s₁.heap = h0 := by rw [← hh, Bd.state]; rfl
  have N0 := Fr.nil n0
  have pre0 : ∀ t, Steps p.tables e below (s₁.setTop (mkF m 0 #[.val (.ref a1), .val (.int (0 : Int32)), .unset] [])) t → Steps p.tables e below (s₁.setTop (entryFrame m #[(.ref a1), (.int (0 : Int32))] 3)) t := fun t k => castTop (ef_cp30 m a1) k
  refine own_step (Q := fun o U' => ∃ v L, o = .returned v ∧ Qcp30 Z a1 c0 c1 c2 cz sf h0 n0 v U'.heap L ∧ FrameEnd s o U' L ({ frames := 2, cells := 0, slots := 0, locals := 27 } : Room).cells ({ frames := 2, cells := 0, slots := 0, locals := 27 } : Room).slots) pre0 ?_
  obtain ⟨ta, ka, xa, fa, ga, ra⟩ := own_Str.op T_a1
  have rb : Arv Z h0 ta ka .byte (3 : Int32) [(.int c0.toInt8.toInt32), (.int c1.toInt8.toInt32), (.int c2.toInt8.toInt32)] (.int (0 : Int32)) := ra
  have S_cs := Sta.ext OLD.2 hCS
  obtain ⟨cq1, kq1, q1a, q1b, q1c⟩ := isOf hZ e0 (own_Str.exa T_a1)
  obtain ⟨_, _, ⟨T1, L1, k1, n1⟩, -, X1, ⟨Lc1, hQ1, l1, y1, z1⟩, st1⟩ := X0.virtualBack hx (y := (⟨"java/lang/String", "isLatin1", "()Z"⟩ : MethodName)) (z := (⟨"java/lang/String", "isLatin1", "()Z"⟩ : MethodName)) hown (mvT hZ (hw _ (List.mem_of_getElem? (i := 71) rfl))) (mvT hZ (hw _ (List.mem_of_getElem? (i := 72) rfl))) (notFace_of_selects (args := #[]) (mvT hZ (hw _ (List.mem_of_getElem? (i := 74) rfl)))) (mvT hZ (hw _ (List.mem_of_getElem? (i := 74) rfl))) (mvT hZ (hw _ (List.mem_of_getElem? (i := 73) rfl))) (by decide) (backOf (W := 0) (rmisl l Z a0 hw [] a1 cz h0 n0 Z0 ga S_cs hcz) hZ (hw _ (List.mem_of_getElem? (i := 75) rfl)) (hw _ (List.mem_of_getElem? (i := 12) rfl)) (by decide) (by decide)) q1a q1c (g := (mkF m 1 #[.val (.ref a1), .val (.int (0 : Int32)), .unset] [(.ref a1)])) rfl (by rw [hml]; rfl) (Steps.refl _) (argsL := []) (rest := []) (lenOf pd_1 rfl) rfl (by show 2 * 0 + _ ≤ _; exact Nat.le_of_eq rfl) (hb hby d14_1) (fun _ _ => ⟨rfl, e0, (by decide : 0 + 0 ≤ _), (by decide : 0 + 0 ≤ _)⟩)
  dsimp only [Pt.U, Pt.locs, Pt.cells, Pt.slots] at X1 l1 y1 z1 st1 hQ1
  subst l1 y1 z1
  obtain ⟨rfl, N1q, e1⟩ := hQ1
  have N1 := Fr.app N0 N1q
  have h2 : ¬ ((fisl cz) = (0 : Int32)) := (by show ¬ ((1 : Int32) = 0); decide)
  obtain ⟨T3, X3, e3, st3⟩ := getF X1 hx hZ hown (host := "") (Or.inl (hw _ (List.mem_of_getElem? (i := 38) rfl))) Via.refl e1 fa (g := (mkF m 9 #[.val (.ref a1), .val (.int (0 : Int32)), .unset] [(.ref a1), (.int (0 : Int32))])) rfl rfl (hb hby d14_9)
  obtain ⟨cl4, Ar4, -, S4, M4, -, -⟩ := id rb
  obtain ⟨_, _, ⟨T5, L5, k5, n5⟩, -, X5, ⟨Lc5, hQ5, l5, y5, z5⟩, st5⟩ := Jvm.LawKit.callS X3 hx (y := (⟨"java/lang/String", "checkIndex", "(II)V"⟩ : MethodName)) hown (mvT hZ (hw _ (List.mem_of_getElem? (i := 76) rfl))) (mvT hZ (hw _ (List.mem_of_getElem? (i := 77) rfl))) (mvT hZ (hw _ (List.mem_of_getElem? (i := 12) rfl))) (mvT hZ (hw _ (List.mem_of_getElem? (i := 78) rfl))) (by decide) (backOf (W := 0) (rmci l Z a0 hw [] (0 : Int32) (3 : Int32) sf h0 n0 Z0 hsf (Sta.ext OLD.2 hSF) (by decide) (by decide)) hZ (hw _ (List.mem_of_getElem? (i := 78) rfl)) (hw _ (List.mem_of_getElem? (i := 12) rfl)) (by decide) (by decide)) (g := (mkF m 13 #[.val (.ref a1), .val (.int (0 : Int32)), .unset] [(.int (3 : Int32)), (.int (0 : Int32))])) rfl (by rw [hml]; rfl) (argsL := [(.int (0 : Int32)), (.int (3 : Int32))]) (rest := []) (lenOf pd_2 rfl) rfl (by show 2 * 0 + _ ≤ _; exact Nat.le_of_eq rfl) (hb hby d14_13) (fun _ _ => ⟨rfl, e3, (by decide : 0 + 0 ≤ _), (by decide : 0 + 0 ≤ _)⟩)
  dsimp only [Pt.U, Pt.locs, Pt.cells, Pt.slots] at X5 l5 y5 z5 st5 hQ5
  subst l5 y5 z5
  obtain ⟨rfl, N5q, e5⟩ := hQ5
  have N5 := Fr.app N1 N5q
  obtain ⟨T6, X6, e6, st6⟩ := getF X5 hx hZ hown (host := "") (Or.inl (hw _ (List.mem_of_getElem? (i := 38) rfl))) Via.refl e5 fa (g := (mkF m 17 #[.val (.ref a1), .val (.int (0 : Int32)), .unset] [(.ref a1)])) rfl rfl (hb hby d14_17)
  obtain ⟨cl7, Ar7, -, S7, M7, H7, -⟩ := id rb
  have hin7 := inb_of (j := (0 : Int32)) S7 (by decide)
  have hat7 := H7.at hin7 (v := (.int c0.toInt8.toInt32)) (rfl)
  obtain ⟨fs, hr, hrun, hended, hW, hsame⟩ := X6.leave (v := some (.int (c0.toInt8.toInt32 &&& (255 : Int32)))) (fun h => by rw [Bd.returns] at h; cases h)
  refine ⟨_, _, ?_, hrun, hended, _, _, rfl, ?_, ⟨_, rfl⟩, hW, hsame.mono (by decide) (by decide)⟩
  · show Steps p.tables e below (s₁.setTop (mkF m 0 #[.val (.ref a1), .val (.int (0 : Int32)), .unset] [])) _
    refine XS.aloadN X0.here hx rfl (hb hby d14_0) rfl rfl ?_
    show Steps p.tables e below (s₁.setTop (mkF m 1 #[.val (.ref a1), .val (.int (0 : Int32)), .unset] [(.ref a1)])) _
    refine st1.trans ?_
    show Steps p.tables e below (T1.setTop (mkF m 4 #[.val (.ref a1), .val (.int (0 : Int32)), .unset] [(.int (fisl cz))])) _
    refine XS.ifNo X1.here hx rfl (hb hby d14_4) rfl ((if0 _ _).trans (feq h2).1) ?_
    show Steps p.tables e below (T1.setTop (mkF m 7 #[.val (.ref a1), .val (.int (0 : Int32)), .unset] [])) _
    refine XS.iloadN X1.here hx rfl (hb hby d14_7) rfl ?_
    show Steps p.tables e below (T1.setTop (mkF m 8 #[.val (.ref a1), .val (.int (0 : Int32)), .unset] [(.int (0 : Int32))])) _
    refine XS.aloadN X1.here hx rfl (hb hby d14_8) rfl rfl ?_
    show Steps p.tables e below (T1.setTop (mkF m 9 #[.val (.ref a1), .val (.int (0 : Int32)), .unset] [(.ref a1), (.int (0 : Int32))])) _
    refine st3 _ ?_
    show Steps p.tables e below (T3.setTop (mkF m 12 #[.val (.ref a1), .val (.int (0 : Int32)), .unset] [(.ref ta), (.int (0 : Int32))])) _
    refine X3.arraylength hx (by rw [e3]; exact Ar4.1) (State.isArrayOf_alike hZ.alike Ar4.2.1) (g := (mkF m 12 #[.val (.ref a1), .val (.int (0 : Int32)), .unset] [(.ref ta), (.int (0 : Int32))])) rfl rfl (hb hby d14_12) _ ?_
    rw [len_of S4 M4]
    show Steps p.tables e below (T3.setTop (mkF m 13 #[.val (.ref a1), .val (.int (0 : Int32)), .unset] [(.int (3 : Int32)), (.int (0 : Int32))])) _
    refine st5 _ ?_
    show Steps p.tables e below (T5.setTop (mkF m 16 #[.val (.ref a1), .val (.int (0 : Int32)), .unset] [])) _
    refine XS.aloadN X5.here hx rfl (hb hby d14_16) rfl rfl ?_
    show Steps p.tables e below (T5.setTop (mkF m 17 #[.val (.ref a1), .val (.int (0 : Int32)), .unset] [(.ref a1)])) _
    refine st6 _ ?_
    show Steps p.tables e below (T6.setTop (mkF m 20 #[.val (.ref a1), .val (.int (0 : Int32)), .unset] [(.ref ta)])) _
    refine XS.iloadN X6.here hx rfl (hb hby d14_20) rfl ?_
    show Steps p.tables e below (T6.setTop (mkF m 21 #[.val (.ref a1), .val (.int (0 : Int32)), .unset] [(.int (0 : Int32)), (.ref ta)])) _
    refine X6.baloadBytes hx (j := (0 : Int32)) (v := (.int c0.toInt8.toInt32)) (by rw [e6]; exact Ar7.1) (State.isArrayOf_alike hZ.alike Ar7.2.1) Ar7.2.2 hin7 hat7 (g := (mkF m 21 #[.val (.ref a1), .val (.int (0 : Int32)), .unset] [(.int (0 : Int32)), (.ref ta)])) rfl rfl (hb hby d14_21) _ ?_
    show Steps p.tables e below (T6.setTop (mkF m 22 #[.val (.ref a1), .val (.int (0 : Int32)), .unset] [(.int c0.toInt8.toInt32)])) _
    refine XS.sipush X6.here hx rfl (hb hby d14_22) ?_
    show Steps p.tables e below (T6.setTop (mkF m 25 #[.val (.ref a1), .val (.int (0 : Int32)), .unset] [(.int (255 : Int32)), (.int c0.toInt8.toInt32)])) _
    refine XS.iand X6.here hx rfl (hb hby d14_25) rfl ?_
    show Steps p.tables e below (T6.setTop (mkF m 26 #[.val (.ref a1), .val (.int (0 : Int32)), .unset] [(.int (c0.toInt8.toInt32 &&& (255 : Int32)))])) _
    exact retI X6 hx Bd.returns (hb hby d14_26) hr
  · show Qcp30 Z a1 c0 c1 c2 cz sf h0 n0 _ T6.heap _
    rw [e6]
    have hf : fcp30 c0 c1 c2 cz = (c0.toInt8.toInt32 &&& (255 : Int32)) := rfl
    exact ⟨by rw [hf], N5, rfl⟩
theorem pn_cp31 : plainName "java/lang/String" = true := by first | (simp [plainName, overriddenIn]; done) | decide +kernel
theorem ef_cp31 (m : MethodId) (a1 : Addr) : entryFrame m #[(.ref a1), (.int (1 : Int32))] 3 = mkF m 0 #[.val (.ref a1), .val (.int (1 : Int32)), .unset] [] := by first | (simp [entryFrame, mkF, argsToLocals, Value.category]; done) | rfl
def Qcp31 (Z : State) (a1 : Addr) (c0 : Int32) (c1 : Int32) (c2 : Int32) (cz : Int32) (sf : Value) (h0 : Heap) (n0 : Nat) (v : Option Value) (h : Heap) (L : List Loc) : Prop := v = some (.int (fcp31 c0 c1 c2 cz)) ∧ Fr n0 L ∧ h = h0
set_option maxRecDepth 65536 in
set_option maxHeartbeats 40000000 in
theorem rmcp31 (l : Launch) (Z : State) (a0 : Array Value) (hw : ∀ d ∈ tables_1, d.before a0 Z = true) (ws : List Jvm.Cond) (a1 : Addr) (c0 : Int32) (c1 : Int32) (c2 : Int32) (cz : Int32) (sf : Value) (h0 : Heap) (n0 : Nat) (Z0 : n0 ≤ h0.size) (OLD : Old Z n0 h0) (T_a1 : own_Str Z h0 a1 ([c0, c1, c2] : List Int32)) (hCS : Sta Z Z.heap "java/lang/String" "COMPACT_STRINGS" "Z" (.int cz)) (hcz : ¬ cz = 0) (hSF : Sta Z Z.heap "jdk/internal/util/Preconditions" "SIOOBE_FORMATTER" "Ljava/util/function/BiFunction;" sf) (hsf : sf = .null ∨ ∃ g, sf = .ref g) :
    MetFree l (⟨"java/lang/String", "codePointAt", "(I)I"⟩ : MethodName) (head1 (Jvm.Cond.code (⟨"java/lang/String", "codePointAt", "(I)I"⟩ : MethodName) jdk_42_method_57_code 3 (some .int) :: ws) ({ frames := 2, cells := 0, slots := 0, locals := 27 } : Room)) (fun a U => a = #[(.ref a1), (.int (1 : Int32))] ∧ Z.Warmed39 U.vm ∧ U.heap = h0) (fun _ _ _ _ _ => True) (fun _ U o U' => ∃ v L, o = .returned v ∧ Qcp31 Z a1 c0 c1 c2 cz sf h0 n0 v U'.heap L ∧ FrameEnd U o U' L ({ frames := 2, cells := 0, slots := 0, locals := 27 } : Room).cells ({ frames := 2, cells := 0, slots := 0, locals := 27 } : Room).slots) := by
  refine MetFree.of_bodySF (plainFor_of_name pn_cp31) hisR ?_
  intro p e s m args below meth c s₁ Bd hml0 hP hK
  obtain ⟨rfl, hZ, hh⟩ := hP
  have hx := Bd.exec
  have hby := Bd.bytes
  have hml : c.maxLocals = 3 := hml0
  have hown : s.vm.findClass "java/lang/String" = some m.cls := findClass_of_methodNamed Bd.named
  have hnm := (name_of_methodNamed Bd.named Bd.method).1
  have X0 : Stand p l e ({ frames := 2, cells := 0, slots := 0, locals := 27 } : Room) s m #[(.ref a1), (.int (1 : Int32))] below meth c s₁ [] 0 0 := Stand.of_body Bd
  have e0 : s₁.heap = h0 := by rw [← hh, Bd.state]; rfl
  have N0 := Fr.nil n0
  have pre0 : ∀ t, Steps p.tables e below (s₁.setTop (mkF m 0 #[.val (.ref a1), .val (.int (1 : Int32)), .unset] [])) t → Steps p.tables e below (s₁.setTop (entryFrame m #[(.ref a1), (.int (1 : Int32))] 3)) t := fun t k => castTop (ef_cp31 m a1) k
  refine own_step (Q := fun o U' => ∃ v L, o = .returned v ∧ Qcp31 Z a1 c0 c1 c2 cz sf h0 n0 v U'.heap L ∧ FrameEnd s o U' L ({ frames := 2, cells := 0, slots := 0, locals := 27 } : Room).cells ({ frames := 2, cells := 0, slots := 0, locals := 27 } : Room).slots) pre0 ?_
  obtain ⟨ta, ka, xa, fa, ga, ra⟩ := own_Str.op T_a1
  have rb : Arv Z h0 ta ka .byte (3 : Int32) [(.int c0.toInt8.toInt32), (.int c1.toInt8.toInt32), (.int c2.toInt8.toInt32)] (.int (0 : Int32)) := ra
  have S_cs := Sta.ext OLD.2 hCS
  obtain ⟨cq1, kq1, q1a, q1b, q1c⟩ := isOf hZ e0 (own_Str.exa T_a1)
  obtain ⟨_, _, ⟨T1, L1, k1, n1⟩, -, X1, ⟨Lc1, hQ1, l1, y1, z1⟩, st1⟩ := X0.virtualBack hx (y := (⟨"java/lang/String", "isLatin1", "()Z"⟩ : MethodName)) (z := (⟨"java/lang/String", "isLatin1", "()Z"⟩ : MethodName)) hown (mvT hZ (hw _ (List.mem_of_getElem? (i := 71) rfl))) (mvT hZ (hw _ (List.mem_of_getElem? (i := 72) rfl))) (notFace_of_selects (args := #[]) (mvT hZ (hw _ (List.mem_of_getElem? (i := 74) rfl)))) (mvT hZ (hw _ (List.mem_of_getElem? (i := 74) rfl))) (mvT hZ (hw _ (List.mem_of_getElem? (i := 73) rfl))) (by decide) (backOf (W := 0) (rmisl l Z a0 hw [] a1 cz h0 n0 Z0 ga S_cs hcz) hZ (hw _ (List.mem_of_getElem? (i := 75) rfl)) (hw _ (List.mem_of_getElem? (i := 12) rfl)) (by decide) (by decide)) q1a q1c (g := (mkF m 1 #[.val (.ref a1), .val (.int (1 : Int32)), .unset] [(.ref a1)])) rfl (by rw [hml]; rfl) (Steps.refl _) (argsL := []) (rest := []) (lenOf pd_1 rfl) rfl (by show 2 * 0 + _ ≤ _; exact Nat.le_of_eq rfl) (hb hby d14_1) (fun _ _ => ⟨rfl, e0, (by decide : 0 + 0 ≤ _), (by decide : 0 + 0 ≤ _)⟩)
  dsimp only [Pt.U, Pt.locs, Pt.cells, Pt.slots] at X1 l1 y1 z1 st1 hQ1
  subst l1 y1 z1
  obtain ⟨rfl, N1q, e1⟩ := hQ1
  have N1 := Fr.app N0 N1q
  have h2 : ¬ ((fisl cz) = (0 : Int32)) := (by show ¬ ((1 : Int32) = 0); decide)
  obtain ⟨T3, X3, e3, st3⟩ := getF X1 hx hZ hown (host := "") (Or.inl (hw _ (List.mem_of_getElem? (i := 38) rfl))) Via.refl e1 fa (g := (mkF m 9 #[.val (.ref a1), .val (.int (1 : Int32)), .unset] [(.ref a1), (.int (1 : Int32))])) rfl rfl (hb hby d14_9)
  obtain ⟨cl4, Ar4, -, S4, M4, -, -⟩ := id rb
  obtain ⟨_, _, ⟨T5, L5, k5, n5⟩, -, X5, ⟨Lc5, hQ5, l5, y5, z5⟩, st5⟩ := Jvm.LawKit.callS X3 hx (y := (⟨"java/lang/String", "checkIndex", "(II)V"⟩ : MethodName)) hown (mvT hZ (hw _ (List.mem_of_getElem? (i := 76) rfl))) (mvT hZ (hw _ (List.mem_of_getElem? (i := 77) rfl))) (mvT hZ (hw _ (List.mem_of_getElem? (i := 12) rfl))) (mvT hZ (hw _ (List.mem_of_getElem? (i := 78) rfl))) (by decide) (backOf (W := 0) (rmci l Z a0 hw [] (1 : Int32) (3 : Int32) sf h0 n0 Z0 hsf (Sta.ext OLD.2 hSF) (by decide) (by decide)) hZ (hw _ (List.mem_of_getElem? (i := 78) rfl)) (hw _ (List.mem_of_getElem? (i := 12) rfl)) (by decide) (by decide)) (g := (mkF m 13 #[.val (.ref a1), .val (.int (1 : Int32)), .unset] [(.int (3 : Int32)), (.int (1 : Int32))])) rfl (by rw [hml]; rfl) (argsL := [(.int (1 : Int32)), (.int (3 : Int32))]) (rest := []) (lenOf pd_2 rfl) rfl (by show 2 * 0 + _ ≤ _; exact Nat.le_of_eq rfl) (hb hby d14_13) (fun _ _ => ⟨rfl, e3, (by decide : 0 + 0 ≤ _), (by decide : 0 + 0 ≤ _)⟩)
  dsimp only [Pt.U, Pt.locs, Pt.cells, Pt.slots] at X5 l5 y5 z5 st5 hQ5
  subst l5 y5 z5
  obtain ⟨rfl, N5q, e5⟩ := hQ5
  have N5 := Fr.app N1 N5q
  obtain ⟨T6, X6, e6, st6⟩ := getF X5 hx hZ hown (host := "") (Or.inl (hw _ (List.mem_of_getElem? (i := 38) rfl))) Via.refl e5 fa (g := (mkF m 17 #[.val (.ref a1), .val (.int (1 : Int32)), .unset] [(.ref a1)])) rfl rfl (hb hby d14_17)
  obtain ⟨cl7, Ar7, -, S7, M7, H7, -⟩ := id rb
  have hin7 := inb_of (j := (1 : Int32)) S7 (by decide)
  have hat7 := H7.at hin7 (v := (.int c1.toInt8.toInt32)) (rfl)
  obtain ⟨fs, hr, hrun, hended, hW, hsame⟩ := X6.leave (v := some (.int (c1.toInt8.toInt32 &&& (255 : Int32)))) (fun h => by rw [Bd.returns] at h; cases h)
  refine ⟨_, _, ?_, hrun, hended, _, _, rfl, ?_, ⟨_, rfl⟩, hW, hsame.mono (by decide) (by decide)⟩
  · show Steps p.tables e below (s₁.setTop (mkF m 0 #[.val (.ref a1), .val (.int (1 : Int32)), .unset] [])) _
    refine XS.aloadN X0.here hx rfl (hb hby d14_0) rfl rfl ?_
    show Steps p.tables e below (s₁.setTop (mkF m 1 #[.val (.ref a1), .val (.int (1 : Int32)), .unset] [(.ref a1)])) _
    refine st1.trans ?_
    show Steps p.tables e below (T1.setTop (mkF m 4 #[.val (.ref a1), .val (.int (1 : Int32)), .unset] [(.int (fisl cz))])) _
    refine XS.ifNo X1.here hx rfl (hb hby d14_4) rfl ((if0 _ _).trans (feq h2).1) ?_
    show Steps p.tables e below (T1.setTop (mkF m 7 #[.val (.ref a1), .val (.int (1 : Int32)), .unset] [])) _
    refine XS.iloadN X1.here hx rfl (hb hby d14_7) rfl ?_
    show Steps p.tables e below (T1.setTop (mkF m 8 #[.val (.ref a1), .val (.int (1 : Int32)), .unset] [(.int (1 : Int32))])) _
    refine XS.aloadN X1.here hx rfl (hb hby d14_8) rfl rfl ?_
    show Steps p.tables e below (T1.setTop (mkF m 9 #[.val (.ref a1), .val (.int (1 : Int32)), .unset] [(.ref a1), (.int (1 : Int32))])) _
    refine st3 _ ?_
    show Steps p.tables e below (T3.setTop (mkF m 12 #[.val (.ref a1), .val (.int (1 : Int32)), .unset] [(.ref ta), (.int (1 : Int32))])) _
    refine X3.arraylength hx (by rw [e3]; exact Ar4.1) (State.isArrayOf_alike hZ.alike Ar4.2.1) (g := (mkF m 12 #[.val (.ref a1), .val (.int (1 : Int32)), .unset] [(.ref ta), (.int (1 : Int32))])) rfl rfl (hb hby d14_12) _ ?_
    rw [len_of S4 M4]
    show Steps p.tables e below (T3.setTop (mkF m 13 #[.val (.ref a1), .val (.int (1 : Int32)), .unset] [(.int (3 : Int32)), (.int (1 : Int32))])) _
    refine st5 _ ?_
    show Steps p.tables e below (T5.setTop (mkF m 16 #[.val (.ref a1), .val (.int (1 : Int32)), .unset] [])) _
    refine XS.aloadN X5.here hx rfl (hb hby d14_16) rfl rfl ?_
    show Steps p.tables e below (T5.setTop (mkF m 17 #[.val (.ref a1), .val (.int (1 : Int32)), .unset] [(.ref a1)])) _
    refine st6 _ ?_
    show Steps p.tables e below (T6.setTop (mkF m 20 #[.val (.ref a1), .val (.int (1 : Int32)), .unset] [(.ref ta)])) _
    refine XS.iloadN X6.here hx rfl (hb hby d14_20) rfl ?_
    show Steps p.tables e below (T6.setTop (mkF m 21 #[.val (.ref a1), .val (.int (1 : Int32)), .unset] [(.int (1 : Int32)), (.ref ta)])) _
    refine X6.baloadBytes hx (j := (1 : Int32)) (v := (.int c1.toInt8.toInt32)) (by rw [e6]; exact Ar7.1) (State.isArrayOf_alike hZ.alike Ar7.2.1) Ar7.2.2 hin7 hat7 (g := (mkF m 21 #[.val (.ref a1), .val (.int (1 : Int32)), .unset] [(.int (1 : Int32)), (.ref ta)])) rfl rfl (hb hby d14_21) _ ?_
    show Steps p.tables e below (T6.setTop (mkF m 22 #[.val (.ref a1), .val (.int (1 : Int32)), .unset] [(.int c1.toInt8.toInt32)])) _
    refine XS.sipush X6.here hx rfl (hb hby d14_22) ?_
    show Steps p.tables e below (T6.setTop (mkF m 25 #[.val (.ref a1), .val (.int (1 : Int32)), .unset] [(.int (255 : Int32)), (.int c1.toInt8.toInt32)])) _
    refine XS.iand X6.here hx rfl (hb hby d14_25) rfl ?_
    show Steps p.tables e below (T6.setTop (mkF m 26 #[.val (.ref a1), .val (.int (1 : Int32)), .unset] [(.int (c1.toInt8.toInt32 &&& (255 : Int32)))])) _
    exact retI X6 hx Bd.returns (hb hby d14_26) hr
  · show Qcp31 Z a1 c0 c1 c2 cz sf h0 n0 _ T6.heap _
    rw [e6]
    have hf : fcp31 c0 c1 c2 cz = (c1.toInt8.toInt32 &&& (255 : Int32)) := rfl
    exact ⟨by rw [hf], N5, rfl⟩
theorem pn_cp32 : plainName "java/lang/String" = true := by first | (simp [plainName, overriddenIn]; done) | decide +kernel
theorem ef_cp32 (m : MethodId) (a1 : Addr) : entryFrame m #[(.ref a1), (.int (2 : Int32))] 3 = mkF m 0 #[.val (.ref a1), .val (.int (2 : Int32)), .unset] [] := by first | (simp [entryFrame, mkF, argsToLocals, Value.category]; done) | rfl
def Qcp32 (Z : State) (a1 : Addr) (c0 : Int32) (c1 : Int32) (c2 : Int32) (cz : Int32) (sf : Value) (h0 : Heap) (n0 : Nat) (v : Option Value) (h : Heap) (L : List Loc) : Prop := v = some (.int (fcp32 c0 c1 c2 cz)) ∧ Fr n0 L ∧ h = h0
set_option maxRecDepth 65536 in
set_option maxHeartbeats 40000000 in
theorem rmcp32 (l : Launch) (Z : State) (a0 : Array Value) (hw : ∀ d ∈ tables_1, d.before a0 Z = true) (ws : List Jvm.Cond) (a1 : Addr) (c0 : Int32) (c1 : Int32) (c2 : Int32) (cz : Int32) (sf : Value) (h0 : Heap) (n0 : Nat) (Z0 : n0 ≤ h0.size) (OLD : Old Z n0 h0) (T_a1 : own_Str Z h0 a1 ([c0, c1, c2] : List Int32)) (hCS : Sta Z Z.heap "java/lang/String" "COMPACT_STRINGS" "Z" (.int cz)) (hcz : ¬ cz = 0) (hSF : Sta Z Z.heap "jdk/internal/util/Preconditions" "SIOOBE_FORMATTER" "Ljava/util/function/BiFunction;" sf) (hsf : sf = .null ∨ ∃ g, sf = .ref g) :
    MetFree l (⟨"java/lang/String", "codePointAt", "(I)I"⟩ : MethodName) (head1 (Jvm.Cond.code (⟨"java/lang/String", "codePointAt", "(I)I"⟩ : MethodName) jdk_42_method_57_code 3 (some .int) :: ws) ({ frames := 2, cells := 0, slots := 0, locals := 27 } : Room)) (fun a U => a = #[(.ref a1), (.int (2 : Int32))] ∧ Z.Warmed39 U.vm ∧ U.heap = h0) (fun _ _ _ _ _ => True) (fun _ U o U' => ∃ v L, o = .returned v ∧ Qcp32 Z a1 c0 c1 c2 cz sf h0 n0 v U'.heap L ∧ FrameEnd U o U' L ({ frames := 2, cells := 0, slots := 0, locals := 27 } : Room).cells ({ frames := 2, cells := 0, slots := 0, locals := 27 } : Room).slots) := by
  refine MetFree.of_bodySF (plainFor_of_name pn_cp32) hisR ?_
  intro p e s m args below meth c s₁ Bd hml0 hP hK
  obtain ⟨rfl, hZ, hh⟩ := hP
  have hx := Bd.exec
  have hby := Bd.bytes
  have hml : c.maxLocals = 3 := hml0
  have hown : s.vm.findClass "java/lang/String" = some m.cls := findClass_of_methodNamed Bd.named
  have hnm := (name_of_methodNamed Bd.named Bd.method).1
  have X0 : Stand p l e ({ frames := 2, cells := 0, slots := 0, locals := 27 } : Room) s m #[(.ref a1), (.int (2 : Int32))] below meth c s₁ [] 0 0 := Stand.of_body Bd
  have e0 : s₁.heap = h0 := by rw [← hh, Bd.state]; rfl
  have N0 := Fr.nil n0
  have pre0 : ∀ t, Steps p.tables e below (s₁.setTop (mkF m 0 #[.val (.ref a1), .val (.int (2 : Int32)), .unset] [])) t → Steps p.tables e below (s₁.setTop (entryFrame m #[(.ref a1), (.int (2 : Int32))] 3)) t := fun t k => castTop (ef_cp32 m a1) k
  refine own_step (Q := fun o U' => ∃ v L, o = .returned v ∧ Qcp32 Z a1 c0 c1 c2 cz sf h0 n0 v U'.heap L ∧ FrameEnd s o U' L ({ frames := 2, cells := 0, slots := 0, locals := 27 } : Room).cells ({ frames := 2, cells := 0, slots := 0, locals := 27 } : Room).slots) pre0 ?_
  obtain ⟨ta, ka, xa, fa, ga, ra⟩ := own_Str.op T_a1
  have rb : Arv Z h0 ta ka .byte (3 : Int32) [(.int c0.toInt8.toInt32), (.int c1.toInt8.toInt32), (.int c2.toInt8.toInt32)] (.int (0 : Int32)) := ra
  have S_cs := Sta.ext OLD.2 hCS
  obtain ⟨cq1, kq1, q1a, q1b, q1c⟩ := isOf hZ e0 (own_Str.exa T_a1)
  obtain ⟨_, _, ⟨T1, L1, k1, n1⟩, -, X1, ⟨Lc1, hQ1, l1, y1, z1⟩, st1⟩ := X0.virtualBack hx (y := (⟨"java/lang/String", "isLatin1", "()Z"⟩ : MethodName)) (z := (⟨"java/lang/String", "isLatin1", "()Z"⟩ : MethodName)) hown (mvT hZ (hw _ (List.mem_of_getElem? (i := 71) rfl))) (mvT hZ (hw _ (List.mem_of_getElem? (i := 72) rfl))) (notFace_of_selects (args := #[]) (mvT hZ (hw _ (List.mem_of_getElem? (i := 74) rfl)))) (mvT hZ (hw _ (List.mem_of_getElem? (i := 74) rfl))) (mvT hZ (hw _ (List.mem_of_getElem? (i := 73) rfl))) (by decide) (backOf (W := 0) (rmisl l Z a0 hw [] a1 cz h0 n0 Z0 ga S_cs hcz) hZ (hw _ (List.mem_of_getElem? (i := 75) rfl)) (hw _ (List.mem_of_getElem? (i := 12) rfl)) (by decide) (by decide)) q1a q1c (g := (mkF m 1 #[.val (.ref a1), .val (.int (2 : Int32)), .unset] [(.ref a1)])) rfl (by rw [hml]; rfl) (Steps.refl _) (argsL := []) (rest := []) (lenOf pd_1 rfl) rfl (by show 2 * 0 + _ ≤ _; exact Nat.le_of_eq rfl) (hb hby d14_1) (fun _ _ => ⟨rfl, e0, (by decide : 0 + 0 ≤ _), (by decide : 0 + 0 ≤ _)⟩)
  dsimp only [Pt.U, Pt.locs, Pt.cells, Pt.slots] at X1 l1 y1 z1 st1 hQ1
  subst l1 y1 z1
  obtain ⟨rfl, N1q, e1⟩ := hQ1
  have N1 := Fr.app N0 N1q
  have h2 : ¬ ((fisl cz) = (0 : Int32)) := (by show ¬ ((1 : Int32) = 0); decide)
  obtain ⟨T3, X3, e3, st3⟩ := getF X1 hx hZ hown (host := "") (Or.inl (hw _ (List.mem_of_getElem? (i := 38) rfl))) Via.refl e1 fa (g := (mkF m 9 #[.val (.ref a1), .val (.int (2 : Int32)), .unset] [(.ref a1), (.int (2 : Int32))])) rfl rfl (hb hby d14_9)
  obtain ⟨cl4, Ar4, -, S4, M4, -, -⟩ := id rb
  obtain ⟨_, _, ⟨T5, L5, k5, n5⟩, -, X5, ⟨Lc5, hQ5, l5, y5, z5⟩, st5⟩ := Jvm.LawKit.callS X3 hx (y := (⟨"java/lang/String", "checkIndex", "(II)V"⟩ : MethodName)) hown (mvT hZ (hw _ (List.mem_of_getElem? (i := 76) rfl))) (mvT hZ (hw _ (List.mem_of_getElem? (i := 77) rfl))) (mvT hZ (hw _ (List.mem_of_getElem? (i := 12) rfl))) (mvT hZ (hw _ (List.mem_of_getElem? (i := 78) rfl))) (by decide) (backOf (W := 0) (rmci l Z a0 hw [] (2 : Int32) (3 : Int32) sf h0 n0 Z0 hsf (Sta.ext OLD.2 hSF) (by decide) (by decide)) hZ (hw _ (List.mem_of_getElem? (i := 78) rfl)) (hw _ (List.mem_of_getElem? (i := 12) rfl)) (by decide) (by decide)) (g := (mkF m 13 #[.val (.ref a1), .val (.int (2 : Int32)), .unset] [(.int (3 : Int32)), (.int (2 : Int32))])) rfl (by rw [hml]; rfl) (argsL := [(.int (2 : Int32)), (.int (3 : Int32))]) (rest := []) (lenOf pd_2 rfl) rfl (by show 2 * 0 + _ ≤ _; exact Nat.le_of_eq rfl) (hb hby d14_13) (fun _ _ => ⟨rfl, e3, (by decide : 0 + 0 ≤ _), (by decide : 0 + 0 ≤ _)⟩)
  dsimp only [Pt.U, Pt.locs, Pt.cells, Pt.slots] at X5 l5 y5 z5 st5 hQ5
  subst l5 y5 z5
  obtain ⟨rfl, N5q, e5⟩ := hQ5
  have N5 := Fr.app N1 N5q
  obtain ⟨T6, X6, e6, st6⟩ := getF X5 hx hZ hown (host := "") (Or.inl (hw _ (List.mem_of_getElem? (i := 38) rfl))) Via.refl e5 fa (g := (mkF m 17 #[.val (.ref a1), .val (.int (2 : Int32)), .unset] [(.ref a1)])) rfl rfl (hb hby d14_17)
  obtain ⟨cl7, Ar7, -, S7, M7, H7, -⟩ := id rb
  have hin7 := inb_of (j := (2 : Int32)) S7 (by decide)
  have hat7 := H7.at hin7 (v := (.int c2.toInt8.toInt32)) (rfl)
  obtain ⟨fs, hr, hrun, hended, hW, hsame⟩ := X6.leave (v := some (.int (c2.toInt8.toInt32 &&& (255 : Int32)))) (fun h => by rw [Bd.returns] at h; cases h)
  refine ⟨_, _, ?_, hrun, hended, _, _, rfl, ?_, ⟨_, rfl⟩, hW, hsame.mono (by decide) (by decide)⟩
  · show Steps p.tables e below (s₁.setTop (mkF m 0 #[.val (.ref a1), .val (.int (2 : Int32)), .unset] [])) _
    refine XS.aloadN X0.here hx rfl (hb hby d14_0) rfl rfl ?_
    show Steps p.tables e below (s₁.setTop (mkF m 1 #[.val (.ref a1), .val (.int (2 : Int32)), .unset] [(.ref a1)])) _
    refine st1.trans ?_
    show Steps p.tables e below (T1.setTop (mkF m 4 #[.val (.ref a1), .val (.int (2 : Int32)), .unset] [(.int (fisl cz))])) _
    refine XS.ifNo X1.here hx rfl (hb hby d14_4) rfl ((if0 _ _).trans (feq h2).1) ?_
    show Steps p.tables e below (T1.setTop (mkF m 7 #[.val (.ref a1), .val (.int (2 : Int32)), .unset] [])) _
    refine XS.iloadN X1.here hx rfl (hb hby d14_7) rfl ?_
    show Steps p.tables e below (T1.setTop (mkF m 8 #[.val (.ref a1), .val (.int (2 : Int32)), .unset] [(.int (2 : Int32))])) _
    refine XS.aloadN X1.here hx rfl (hb hby d14_8) rfl rfl ?_
    show Steps p.tables e below (T1.setTop (mkF m 9 #[.val (.ref a1), .val (.int (2 : Int32)), .unset] [(.ref a1), (.int (2 : Int32))])) _
    refine st3 _ ?_
    show Steps p.tables e below (T3.setTop (mkF m 12 #[.val (.ref a1), .val (.int (2 : Int32)), .unset] [(.ref ta), (.int (2 : Int32))])) _
    refine X3.arraylength hx (by rw [e3]; exact Ar4.1) (State.isArrayOf_alike hZ.alike Ar4.2.1) (g := (mkF m 12 #[.val (.ref a1), .val (.int (2 : Int32)), .unset] [(.ref ta), (.int (2 : Int32))])) rfl rfl (hb hby d14_12) _ ?_
    rw [len_of S4 M4]
    show Steps p.tables e below (T3.setTop (mkF m 13 #[.val (.ref a1), .val (.int (2 : Int32)), .unset] [(.int (3 : Int32)), (.int (2 : Int32))])) _
    refine st5 _ ?_
    show Steps p.tables e below (T5.setTop (mkF m 16 #[.val (.ref a1), .val (.int (2 : Int32)), .unset] [])) _
    refine XS.aloadN X5.here hx rfl (hb hby d14_16) rfl rfl ?_
    show Steps p.tables e below (T5.setTop (mkF m 17 #[.val (.ref a1), .val (.int (2 : Int32)), .unset] [(.ref a1)])) _
    refine st6 _ ?_
    show Steps p.tables e below (T6.setTop (mkF m 20 #[.val (.ref a1), .val (.int (2 : Int32)), .unset] [(.ref ta)])) _
    refine XS.iloadN X6.here hx rfl (hb hby d14_20) rfl ?_
    show Steps p.tables e below (T6.setTop (mkF m 21 #[.val (.ref a1), .val (.int (2 : Int32)), .unset] [(.int (2 : Int32)), (.ref ta)])) _
    refine X6.baloadBytes hx (j := (2 : Int32)) (v := (.int c2.toInt8.toInt32)) (by rw [e6]; exact Ar7.1) (State.isArrayOf_alike hZ.alike Ar7.2.1) Ar7.2.2 hin7 hat7 (g := (mkF m 21 #[.val (.ref a1), .val (.int (2 : Int32)), .unset] [(.int (2 : Int32)), (.ref ta)])) rfl rfl (hb hby d14_21) _ ?_
    show Steps p.tables e below (T6.setTop (mkF m 22 #[.val (.ref a1), .val (.int (2 : Int32)), .unset] [(.int c2.toInt8.toInt32)])) _
    refine XS.sipush X6.here hx rfl (hb hby d14_22) ?_
    show Steps p.tables e below (T6.setTop (mkF m 25 #[.val (.ref a1), .val (.int (2 : Int32)), .unset] [(.int (255 : Int32)), (.int c2.toInt8.toInt32)])) _
    refine XS.iand X6.here hx rfl (hb hby d14_25) rfl ?_
    show Steps p.tables e below (T6.setTop (mkF m 26 #[.val (.ref a1), .val (.int (2 : Int32)), .unset] [(.int (c2.toInt8.toInt32 &&& (255 : Int32)))])) _
    exact retI X6 hx Bd.returns (hb hby d14_26) hr
  · show Qcp32 Z a1 c0 c1 c2 cz sf h0 n0 _ T6.heap _
    rw [e6]
    have hf : fcp32 c0 c1 c2 cz = (c2.toInt8.toInt32 &&& (255 : Int32)) := rfl
    exact ⟨by rw [hf], N5, rfl⟩
theorem d11_0 : decode prog_28_method_2_code 0 = .ok (.iconst 0, 1) := by decide +kernel
theorem d11_1 : decode prog_28_method_2_code 1 = .ok (.istore_n 3, 1) := by decide +kernel
theorem d11_2 : decode prog_28_method_2_code 2 = .ok (.iload_n 3, 1) := by decide +kernel
theorem d11_3 : decode prog_28_method_2_code 3 = .ok (.aload_n 0, 1) := by decide +kernel
theorem d11_4 : decode prog_28_method_2_code 4 = .ok (.invokevirtual 7, 3) := by decide +kernel
theorem d11_7 : decode prog_28_method_2_code 7 = .ok (.if_icmp .ge 66, 3) := by decide +kernel
theorem d11_10 : decode prog_28_method_2_code 10 = .ok (.aload_n 0, 1) := by decide +kernel
theorem d11_11 : decode prog_28_method_2_code 11 = .ok (.iload_n 3, 1) := by decide +kernel
theorem d11_12 : decode prog_28_method_2_code 12 = .ok (.invokevirtual 13, 3) := by decide +kernel
theorem d11_15 : decode prog_28_method_2_code 15 = .ok (.istore 4, 2) := by decide +kernel
theorem d11_17 : decode prog_28_method_2_code 17 = .ok (.iload 4, 2) := by decide +kernel
theorem d11_19 : decode prog_28_method_2_code 19 = .ok (.bipush 32, 2) := by decide +kernel
theorem d11_21 : decode prog_28_method_2_code 21 = .ok (.if_icmp .lt 10, 3) := by decide +kernel
theorem d11_24 : decode prog_28_method_2_code 24 = .ok (.iload 4, 2) := by decide +kernel
theorem d11_26 : decode prog_28_method_2_code 26 = .ok (.bipush 126, 2) := by decide +kernel
theorem d11_28 : decode prog_28_method_2_code 28 = .ok (.if_icmp .le 39, 3) := by decide +kernel
theorem d11_67 : decode prog_28_method_2_code 67 = .ok (.iinc 3 1, 3) := by decide +kernel
theorem d11_70 : decode prog_28_method_2_code 70 = .ok (.goto (-68), 3) := by decide +kernel
theorem d11_73 : decode prog_28_method_2_code 73 = .ok (.aload_n 0, 1) := by decide +kernel
theorem d11_74 : decode prog_28_method_2_code 74 = .ok (.invokevirtual 36, 3) := by decide +kernel
theorem d11_77 : decode prog_28_method_2_code 77 = .ok (.ifCond .ne 11, 3) := by decide +kernel
theorem d11_80 : decode prog_28_method_2_code 80 = .ok (.aload_n 0, 1) := by decide +kernel
theorem d11_81 : decode prog_28_method_2_code 81 = .ok (.invokevirtual 7, 3) := by decide +kernel
theorem d11_84 : decode prog_28_method_2_code 84 = .ok (.iload_n 1, 1) := by decide +kernel
theorem d11_85 : decode prog_28_method_2_code 85 = .ok (.if_icmp .le 22, 3) := by decide +kernel
theorem d11_107 : decode prog_28_method_2_code 107 = .ok (.aload_n 0, 1) := by decide +kernel
theorem d11_108 : decode prog_28_method_2_code 108 = .ok (.areturn, 1) := by decide +kernel
theorem pn_rq1 : plainName "com/example/hitotabi/hitotabi/PrintableAscii" = true := by first | (simp [plainName, overriddenIn]; done) | decide +kernel
theorem ef_rq1 (m : MethodId) (a1 : Addr) (a3 : Addr) : entryFrame m #[(.ref a1), (.int (255 : Int32)), (.ref a3)] 5 = mkF m 0 #[.val (.ref a1), .val (.int (255 : Int32)), .val (.ref a3), .unset, .unset] [] := by first | (simp [entryFrame, mkF, argsToLocals, Value.category]; done) | rfl
def Qrq1 (Z : State) (a1 : Addr) (a3 : Addr) (c0 : Int32) (cz : Int32) (sf : Value) (h0 : Heap) (n0 : Nat) (v : Option Value) (h : Heap) (L : List Loc) : Prop := v = some (.ref a1) ∧ Fr n0 L ∧ h = h0
set_option maxRecDepth 65536 in
set_option maxHeartbeats 40000000 in
theorem rmrq1 (l : Launch) (Z : State) (a0 : Array Value) (hw : ∀ d ∈ tables_1, d.before a0 Z = true) (ws : List Jvm.Cond) (a1 : Addr) (a3 : Addr) (c0 : Int32) (cz : Int32) (sf : Value) (h0 : Heap) (n0 : Nat) (Z0 : n0 ≤ h0.size) (OLD : Old Z n0 h0) (T_a1 : own_Str Z h0 a1 ([c0] : List Int32)) (pr0 : own_pr c0) (hCS : Sta Z Z.heap "java/lang/String" "COMPACT_STRINGS" "Z" (.int cz)) (hcz : ¬ cz = 0) (hSF : Sta Z Z.heap "jdk/internal/util/Preconditions" "SIOOBE_FORMATTER" "Ljava/util/function/BiFunction;" sf) (hsf : sf = .null ∨ ∃ g, sf = .ref g) :
    MetFree l (⟨"com/example/hitotabi/hitotabi/PrintableAscii", "require", "(Ljava/lang/String;ILjava/lang/String;)Ljava/lang/String;"⟩ : MethodName) (head1 (Jvm.Cond.code (⟨"com/example/hitotabi/hitotabi/PrintableAscii", "require", "(Ljava/lang/String;ILjava/lang/String;)Ljava/lang/String;"⟩ : MethodName) prog_28_method_2_code 5 (some (.object "java/lang/String")) :: ws) ({ frames := 3, cells := 0, slots := 0, locals := 41 } : Room)) (fun a U => a = #[(.ref a1), (.int (255 : Int32)), (.ref a3)] ∧ Z.Warmed39 U.vm ∧ U.heap = h0) (fun _ _ _ _ _ => True) (fun _ U o U' => ∃ v L, o = .returned v ∧ Qrq1 Z a1 a3 c0 cz sf h0 n0 v U'.heap L ∧ FrameEnd U o U' L ({ frames := 3, cells := 0, slots := 0, locals := 41 } : Room).cells ({ frames := 3, cells := 0, slots := 0, locals := 41 } : Room).slots) := by
  refine MetFree.of_bodySF (plainFor_of_name pn_rq1) hisR ?_
  intro p e s m args below meth c s₁ Bd hml0 hP hK
  obtain ⟨rfl, hZ, hh⟩ := hP
  have hx := Bd.exec
  have hby := Bd.bytes
  have hml : c.maxLocals = 5 := hml0
  have hown : s.vm.findClass "com/example/hitotabi/hitotabi/PrintableAscii" = some m.cls := findClass_of_methodNamed Bd.named
  have hnm := (name_of_methodNamed Bd.named Bd.method).1
  have X0 : Stand p l e ({ frames := 3, cells := 0, slots := 0, locals := 41 } : Room) s m #[(.ref a1), (.int (255 : Int32)), (.ref a3)] below meth c s₁ [] 0 0 := Stand.of_body Bd
  have e0 : s₁.heap = h0 := by rw [← hh, Bd.state]; rfl
  have N0 := Fr.nil n0
  have pre0 : ∀ t, Steps p.tables e below (s₁.setTop (mkF m 0 #[.val (.ref a1), .val (.int (255 : Int32)), .val (.ref a3), .unset, .unset] [])) t → Steps p.tables e below (s₁.setTop (entryFrame m #[(.ref a1), (.int (255 : Int32)), (.ref a3)] 5)) t := fun t k => castTop (ef_rq1 m a1 a3) k
  refine own_step (Q := fun o U' => ∃ v L, o = .returned v ∧ Qrq1 Z a1 a3 c0 cz sf h0 n0 v U'.heap L ∧ FrameEnd s o U' L ({ frames := 3, cells := 0, slots := 0, locals := 41 } : Room).cells ({ frames := 3, cells := 0, slots := 0, locals := 41 } : Room).slots) pre0 ?_
  obtain ⟨ta1, ka1, na1, va1, xa1, fa1, ga1, ra1, da1, ba1, la1⟩ := id T_a1
  obtain ⟨cq1, kq1, q1a, q1b, q1c⟩ := isOf hZ e0 xa1
  obtain ⟨_, _, ⟨T1, L1, k1, n1⟩, -, X1, ⟨Lc1, hQ1, l1, y1, z1⟩, st1⟩ := X0.virtualBack hx (y := (⟨"java/lang/String", "length", "()I"⟩ : MethodName)) (z := (⟨"java/lang/String", "length", "()I"⟩ : MethodName)) hown (mvT hZ (hw _ (List.mem_of_getElem? (i := 56) rfl))) (mvT hZ (hw _ (List.mem_of_getElem? (i := 57) rfl))) (notFace_of_selects (args := #[]) (mvT hZ (hw _ (List.mem_of_getElem? (i := 59) rfl)))) (mvT hZ (hw _ (List.mem_of_getElem? (i := 59) rfl))) (mvT hZ (hw _ (List.mem_of_getElem? (i := 58) rfl))) (by decide) (StrChars.Road.lenW (W := 1) hZ (own_wLen hw) (kI := 4) (hw _ (List.mem_of_getElem? (i := 11) rfl)) xa1 fa1 ga1 ra1 da1 ba1 (Sta.ext OLD.2 hCS) hcz la1 (by decide) (by decide)) q1a q1c (g := (mkF m 4 #[.val (.ref a1), .val (.int (255 : Int32)), .val (.ref a3), .val (.int (0 : Int32)), .unset] [(.ref a1), (.int (0 : Int32))])) rfl (by rw [hml]; rfl) (Steps.refl _) (argsL := []) (rest := [(.int (0 : Int32))]) (lenOf pd_3 rfl) rfl (by show 2 * 0 + _ ≤ _; exact Nat.le_of_eq rfl) (hb hby d11_4) (fun _ _ => ⟨rfl, e0, (by decide : 0 + 0 ≤ _), (by decide : 0 + 0 ≤ _)⟩)
  dsimp only [Pt.U, Pt.locs, Pt.cells, Pt.slots] at X1 l1 y1 z1 st1 hQ1
  subst l1 y1 z1
  obtain ⟨hv1, rfl, e1⟩ := hQ1
  obtain rfl := own_lenv (cs := ([c0] : List Int32)) (z := (1 : Int32)) rfl hv1
  have N1 := Fr.app N0 (Fr.nil n0)
  have h2 : (0 : Int32) < (1 : Int32) := by decide
  obtain ⟨cq3, kq3, q3a, q3b, q3c⟩ := isOf hZ e1 (own_Str.exa T_a1)
  obtain ⟨_, _, ⟨T3, L3, k3, n3⟩, -, X3, ⟨Lc3, hQ3, l3, y3, z3⟩, st3⟩ := X1.virtualBack hx (y := (⟨"java/lang/String", "codePointAt", "(I)I"⟩ : MethodName)) (z := (⟨"java/lang/String", "codePointAt", "(I)I"⟩ : MethodName)) hown (mvT hZ (hw _ (List.mem_of_getElem? (i := 66) rfl))) (mvT hZ (hw _ (List.mem_of_getElem? (i := 67) rfl))) (notFace_of_selects (args := #[]) (mvT hZ (hw _ (List.mem_of_getElem? (i := 69) rfl)))) (mvT hZ (hw _ (List.mem_of_getElem? (i := 69) rfl))) (mvT hZ (hw _ (List.mem_of_getElem? (i := 68) rfl))) (by decide) (backOf (W := 0) (rmcp10 l Z a0 hw [] a1 c0 cz sf h0 n0 Z0 OLD T_a1 hCS hcz hSF hsf) hZ (hw _ (List.mem_of_getElem? (i := 70) rfl)) (hw _ (List.mem_of_getElem? (i := 12) rfl)) (by decide) (by decide)) q3a q3c (g := (mkF m 12 #[.val (.ref a1), .val (.int (255 : Int32)), .val (.ref a3), .val (.int (0 : Int32)), .unset] [(.int (0 : Int32)), (.ref a1)])) rfl (by rw [hml]; rfl) (Steps.refl _) (argsL := [(.int (0 : Int32))]) (rest := []) (lenOf pd_4 rfl) rfl (by show 2 * 0 + _ ≤ _; exact Nat.le_of_eq rfl) (hb hby d11_12) (fun _ _ => ⟨rfl, e1, (by decide : 0 + 0 ≤ _), (by decide : 0 + 0 ≤ _)⟩)
  dsimp only [Pt.U, Pt.locs, Pt.cells, Pt.slots] at X3 l3 y3 z3 st3 hQ3
  subst l3 y3 z3
  obtain ⟨rfl, N3q, e3⟩ := hQ3
  have N3 := Fr.app N1 N3q
  have h4 : ¬ ((fcp10 c0 cz) < (32 : Int32)) := (by show ¬ (c0.toInt8.toInt32 &&& (255 : Int32)) < (32 : Int32); exact (own_cpA pr0).1)
  have h5 : ¬ ((126 : Int32) < (fcp10 c0 cz)) := (by show ¬ (126 : Int32) < (c0.toInt8.toInt32 &&& (255 : Int32)); exact (own_cpA pr0).2)
  obtain ⟨ta6, ka6, na6, va6, xa6, fa6, ga6, ra6, da6, ba6, la6⟩ := id T_a1
  obtain ⟨cq6, kq6, q6a, q6b, q6c⟩ := isOf hZ e3 xa6
  obtain ⟨_, _, ⟨T6, L6, k6, n6⟩, -, X6, ⟨Lc6, hQ6, l6, y6, z6⟩, st6⟩ := X3.virtualBack hx (y := (⟨"java/lang/String", "length", "()I"⟩ : MethodName)) (z := (⟨"java/lang/String", "length", "()I"⟩ : MethodName)) hown (mvT hZ (hw _ (List.mem_of_getElem? (i := 56) rfl))) (mvT hZ (hw _ (List.mem_of_getElem? (i := 57) rfl))) (notFace_of_selects (args := #[]) (mvT hZ (hw _ (List.mem_of_getElem? (i := 59) rfl)))) (mvT hZ (hw _ (List.mem_of_getElem? (i := 59) rfl))) (mvT hZ (hw _ (List.mem_of_getElem? (i := 58) rfl))) (by decide) (StrChars.Road.lenW (W := 1) hZ (own_wLen hw) (kI := 4) (hw _ (List.mem_of_getElem? (i := 11) rfl)) xa6 fa6 ga6 ra6 da6 ba6 (Sta.ext OLD.2 hCS) hcz la6 (by decide) (by decide)) q6a q6c (g := (mkF m 4 #[.val (.ref a1), .val (.int (255 : Int32)), .val (.ref a3), .val (.int (1 : Int32)), .val (.int (fcp10 c0 cz))] [(.ref a1), (.int (1 : Int32))])) rfl (by rw [hml]; rfl) (Steps.refl _) (argsL := []) (rest := [(.int (1 : Int32))]) (lenOf pd_3 rfl) rfl (by show 2 * 0 + _ ≤ _; exact Nat.le_of_eq rfl) (hb hby d11_4) (fun _ _ => ⟨rfl, e3, (by decide : 0 + 0 ≤ _), (by decide : 0 + 0 ≤ _)⟩)
  dsimp only [Pt.U, Pt.locs, Pt.cells, Pt.slots] at X6 l6 y6 z6 st6 hQ6
  subst l6 y6 z6
  obtain ⟨hv6, rfl, e6⟩ := hQ6
  obtain rfl := own_lenv (cs := ([c0] : List Int32)) (z := (1 : Int32)) rfl hv6
  have N6 := Fr.app N3 (Fr.nil n0)
  have h7 : ¬ ((1 : Int32) < (1 : Int32)) := by decide
  obtain ⟨ta8, ka8, na8, va8, xa8, fa8, ga8, ra8, da8, ba8, la8⟩ := id T_a1
  obtain ⟨cq8, kq8, q8a, q8b, q8c⟩ := isOf hZ e6 xa8
  obtain ⟨_, _, ⟨T8, L8, k8, n8⟩, -, X8, ⟨Lc8, hQ8, l8, y8, z8⟩, st8⟩ := X6.virtualBack hx (y := (⟨"java/lang/String", "isEmpty", "()Z"⟩ : MethodName)) (z := (⟨"java/lang/String", "isEmpty", "()Z"⟩ : MethodName)) hown (mvT hZ (hw _ (List.mem_of_getElem? (i := 84) rfl))) (mvT hZ (hw _ (List.mem_of_getElem? (i := 85) rfl))) (notFace_of_selects (args := #[]) (mvT hZ (hw _ (List.mem_of_getElem? (i := 87) rfl)))) (mvT hZ (hw _ (List.mem_of_getElem? (i := 87) rfl))) (mvT hZ (hw _ (List.mem_of_getElem? (i := 86) rfl))) (by decide) (StrChars.Road.empW (W := 0) hZ (own_wEmp hw) (kI := 4) (hw _ (List.mem_of_getElem? (i := 11) rfl)) xa8 fa8 ga8 ra8 da8 ba8 la8 (by decide) (by decide)) q8a q8c (g := (mkF m 74 #[.val (.ref a1), .val (.int (255 : Int32)), .val (.ref a3), .val (.int (1 : Int32)), .val (.int (fcp10 c0 cz))] [(.ref a1)])) rfl (by rw [hml]; rfl) (Steps.refl _) (argsL := []) (rest := []) (lenOf pd_1 rfl) rfl (by show 2 * 0 + _ ≤ _; exact Nat.le_of_eq rfl) (hb hby d11_74) (fun _ _ => ⟨rfl, e6, (by decide : 0 + 0 ≤ _), (by decide : 0 + 0 ≤ _)⟩)
  dsimp only [Pt.U, Pt.locs, Pt.cells, Pt.slots] at X8 l8 y8 z8 st8 hQ8
  subst l8 y8 z8
  obtain ⟨hv8, rfl, e8⟩ := hQ8
  obtain rfl := own_empv (cs := ([c0] : List Int32)) (by show ¬ 1 = 0; decide) hv8
  have N8 := Fr.app N6 (Fr.nil n0)
  have h9 : (0 : Int32) = (0 : Int32) := by decide
  obtain ⟨ta10, ka10, na10, va10, xa10, fa10, ga10, ra10, da10, ba10, la10⟩ := id T_a1
  obtain ⟨cq10, kq10, q10a, q10b, q10c⟩ := isOf hZ e8 xa10
  obtain ⟨_, _, ⟨T10, L10, k10, n10⟩, -, X10, ⟨Lc10, hQ10, l10, y10, z10⟩, st10⟩ := X8.virtualBack hx (y := (⟨"java/lang/String", "length", "()I"⟩ : MethodName)) (z := (⟨"java/lang/String", "length", "()I"⟩ : MethodName)) hown (mvT hZ (hw _ (List.mem_of_getElem? (i := 56) rfl))) (mvT hZ (hw _ (List.mem_of_getElem? (i := 57) rfl))) (notFace_of_selects (args := #[]) (mvT hZ (hw _ (List.mem_of_getElem? (i := 59) rfl)))) (mvT hZ (hw _ (List.mem_of_getElem? (i := 59) rfl))) (mvT hZ (hw _ (List.mem_of_getElem? (i := 58) rfl))) (by decide) (StrChars.Road.lenW (W := 0) hZ (own_wLen hw) (kI := 4) (hw _ (List.mem_of_getElem? (i := 11) rfl)) xa10 fa10 ga10 ra10 da10 ba10 (Sta.ext OLD.2 hCS) hcz la10 (by decide) (by decide)) q10a q10c (g := (mkF m 81 #[.val (.ref a1), .val (.int (255 : Int32)), .val (.ref a3), .val (.int (1 : Int32)), .val (.int (fcp10 c0 cz))] [(.ref a1)])) rfl (by rw [hml]; rfl) (Steps.refl _) (argsL := []) (rest := []) (lenOf pd_3 rfl) rfl (by show 2 * 0 + _ ≤ _; exact Nat.le_of_eq rfl) (hb hby d11_81) (fun _ _ => ⟨rfl, e8, (by decide : 0 + 0 ≤ _), (by decide : 0 + 0 ≤ _)⟩)
  dsimp only [Pt.U, Pt.locs, Pt.cells, Pt.slots] at X10 l10 y10 z10 st10 hQ10
  subst l10 y10 z10
  obtain ⟨hv10, rfl, e10⟩ := hQ10
  obtain rfl := own_lenv (cs := ([c0] : List Int32)) (z := (1 : Int32)) rfl hv10
  have N10 := Fr.app N8 (Fr.nil n0)
  have h11 : ¬ ((255 : Int32) < (1 : Int32)) := by decide
  obtain ⟨fs, hr, hrun, hended, hW, hsame⟩ := X10.leave (v := some (.ref a1)) (fun h => by rw [Bd.returns] at h; cases h)
  refine ⟨_, _, ?_, hrun, hended, _, _, rfl, ?_, ⟨_, rfl⟩, hW, hsame.mono (by decide) (by decide)⟩
  · show Steps p.tables e below (s₁.setTop (mkF m 0 #[.val (.ref a1), .val (.int (255 : Int32)), .val (.ref a3), .unset, .unset] [])) _
    refine XS.iconst X0.here hx rfl (hb hby d11_0) ?_
    show Steps p.tables e below (s₁.setTop (mkF m 1 #[.val (.ref a1), .val (.int (255 : Int32)), .val (.ref a3), .unset, .unset] [(.int (0 : Int32))])) _
    refine XS.istoreN X0.here hx rfl (hb hby d11_1) rfl (l' := #[.val (.ref a1), .val (.int (255 : Int32)), .val (.ref a3), .val (.int (0 : Int32)), .unset]) rfl ?_
    show Steps p.tables e below (s₁.setTop (mkF m 2 #[.val (.ref a1), .val (.int (255 : Int32)), .val (.ref a3), .val (.int (0 : Int32)), .unset] [])) _
    refine XS.iloadN X0.here hx rfl (hb hby d11_2) rfl ?_
    show Steps p.tables e below (s₁.setTop (mkF m 3 #[.val (.ref a1), .val (.int (255 : Int32)), .val (.ref a3), .val (.int (0 : Int32)), .unset] [(.int (0 : Int32))])) _
    refine XS.aloadN X0.here hx rfl (hb hby d11_3) rfl rfl ?_
    show Steps p.tables e below (s₁.setTop (mkF m 4 #[.val (.ref a1), .val (.int (255 : Int32)), .val (.ref a3), .val (.int (0 : Int32)), .unset] [(.ref a1), (.int (0 : Int32))])) _
    refine st1.trans ?_
    show Steps p.tables e below (T1.setTop (mkF m 7 #[.val (.ref a1), .val (.int (255 : Int32)), .val (.ref a3), .val (.int (0 : Int32)), .unset] [(.int (1 : Int32)), (.int (0 : Int32))])) _
    refine XS.icmpNo X1.here hx rfl (hb hby d11_7) rfl (tlt h2).2.1 ?_
    show Steps p.tables e below (T1.setTop (mkF m 10 #[.val (.ref a1), .val (.int (255 : Int32)), .val (.ref a3), .val (.int (0 : Int32)), .unset] [])) _
    refine XS.aloadN X1.here hx rfl (hb hby d11_10) rfl rfl ?_
    show Steps p.tables e below (T1.setTop (mkF m 11 #[.val (.ref a1), .val (.int (255 : Int32)), .val (.ref a3), .val (.int (0 : Int32)), .unset] [(.ref a1)])) _
    refine XS.iloadN X1.here hx rfl (hb hby d11_11) rfl ?_
    show Steps p.tables e below (T1.setTop (mkF m 12 #[.val (.ref a1), .val (.int (255 : Int32)), .val (.ref a3), .val (.int (0 : Int32)), .unset] [(.int (0 : Int32)), (.ref a1)])) _
    refine st3.trans ?_
    show Steps p.tables e below (T3.setTop (mkF m 15 #[.val (.ref a1), .val (.int (255 : Int32)), .val (.ref a3), .val (.int (0 : Int32)), .unset] [(.int (fcp10 c0 cz))])) _
    refine XS.istore X3.here hx rfl (hb hby d11_15) rfl (l' := #[.val (.ref a1), .val (.int (255 : Int32)), .val (.ref a3), .val (.int (0 : Int32)), .val (.int (fcp10 c0 cz))]) rfl ?_
    show Steps p.tables e below (T3.setTop (mkF m 17 #[.val (.ref a1), .val (.int (255 : Int32)), .val (.ref a3), .val (.int (0 : Int32)), .val (.int (fcp10 c0 cz))] [])) _
    refine XS.iload X3.here hx rfl (hb hby d11_17) rfl ?_
    show Steps p.tables e below (T3.setTop (mkF m 19 #[.val (.ref a1), .val (.int (255 : Int32)), .val (.ref a3), .val (.int (0 : Int32)), .val (.int (fcp10 c0 cz))] [(.int (fcp10 c0 cz))])) _
    refine XS.bipush X3.here hx rfl (hb hby d11_19) ?_
    show Steps p.tables e below (T3.setTop (mkF m 21 #[.val (.ref a1), .val (.int (255 : Int32)), .val (.ref a3), .val (.int (0 : Int32)), .val (.int (fcp10 c0 cz))] [(.int (32 : Int32)), (.int (fcp10 c0 cz))])) _
    refine XS.icmpNo X3.here hx rfl (hb hby d11_21) rfl (flt h4).1 ?_
    show Steps p.tables e below (T3.setTop (mkF m 24 #[.val (.ref a1), .val (.int (255 : Int32)), .val (.ref a3), .val (.int (0 : Int32)), .val (.int (fcp10 c0 cz))] [])) _
    refine XS.iload X3.here hx rfl (hb hby d11_24) rfl ?_
    show Steps p.tables e below (T3.setTop (mkF m 26 #[.val (.ref a1), .val (.int (255 : Int32)), .val (.ref a3), .val (.int (0 : Int32)), .val (.int (fcp10 c0 cz))] [(.int (fcp10 c0 cz))])) _
    refine XS.bipush X3.here hx rfl (hb hby d11_26) ?_
    show Steps p.tables e below (T3.setTop (mkF m 28 #[.val (.ref a1), .val (.int (255 : Int32)), .val (.ref a3), .val (.int (0 : Int32)), .val (.int (fcp10 c0 cz))] [(.int (126 : Int32)), (.int (fcp10 c0 cz))])) _
    refine XS.icmpYes X3.here hx rfl (pc0 := 28) (pc' := 67) rfl (hb hby d11_28) rfl (flt h5).2.2.2 (by decide) (by decide) ?_
    show Steps p.tables e below (T3.setTop (mkF m 67 #[.val (.ref a1), .val (.int (255 : Int32)), .val (.ref a3), .val (.int (0 : Int32)), .val (.int (fcp10 c0 cz))] [])) _
    refine XS.iinc X3.here hx rfl (hb hby d11_67) rfl (l' := #[.val (.ref a1), .val (.int (255 : Int32)), .val (.ref a3), .val (.int (1 : Int32)), .val (.int (fcp10 c0 cz))]) rfl ?_
    show Steps p.tables e below (T3.setTop (mkF m 70 #[.val (.ref a1), .val (.int (255 : Int32)), .val (.ref a3), .val (.int (1 : Int32)), .val (.int (fcp10 c0 cz))] [])) _
    refine XS.goto X3.here hx rfl (pc0 := 70) (pc' := 2) rfl (hb hby d11_70) (by decide) (by decide) ?_
    show Steps p.tables e below (T3.setTop (mkF m 2 #[.val (.ref a1), .val (.int (255 : Int32)), .val (.ref a3), .val (.int (1 : Int32)), .val (.int (fcp10 c0 cz))] [])) _
    refine XS.iloadN X3.here hx rfl (hb hby d11_2) rfl ?_
    show Steps p.tables e below (T3.setTop (mkF m 3 #[.val (.ref a1), .val (.int (255 : Int32)), .val (.ref a3), .val (.int (1 : Int32)), .val (.int (fcp10 c0 cz))] [(.int (1 : Int32))])) _
    refine XS.aloadN X3.here hx rfl (hb hby d11_3) rfl rfl ?_
    show Steps p.tables e below (T3.setTop (mkF m 4 #[.val (.ref a1), .val (.int (255 : Int32)), .val (.ref a3), .val (.int (1 : Int32)), .val (.int (fcp10 c0 cz))] [(.ref a1), (.int (1 : Int32))])) _
    refine st6.trans ?_
    show Steps p.tables e below (T6.setTop (mkF m 7 #[.val (.ref a1), .val (.int (255 : Int32)), .val (.ref a3), .val (.int (1 : Int32)), .val (.int (fcp10 c0 cz))] [(.int (1 : Int32)), (.int (1 : Int32))])) _
    refine XS.icmpYes X6.here hx rfl (pc0 := 7) (pc' := 73) rfl (hb hby d11_7) rfl (flt h7).2.1 (by decide) (by decide) ?_
    show Steps p.tables e below (T6.setTop (mkF m 73 #[.val (.ref a1), .val (.int (255 : Int32)), .val (.ref a3), .val (.int (1 : Int32)), .val (.int (fcp10 c0 cz))] [])) _
    refine XS.aloadN X6.here hx rfl (hb hby d11_73) rfl rfl ?_
    show Steps p.tables e below (T6.setTop (mkF m 74 #[.val (.ref a1), .val (.int (255 : Int32)), .val (.ref a3), .val (.int (1 : Int32)), .val (.int (fcp10 c0 cz))] [(.ref a1)])) _
    refine st8.trans ?_
    show Steps p.tables e below (T8.setTop (mkF m 77 #[.val (.ref a1), .val (.int (255 : Int32)), .val (.ref a3), .val (.int (1 : Int32)), .val (.int (fcp10 c0 cz))] [(.int (0 : Int32))])) _
    refine XS.ifNo X8.here hx rfl (hb hby d11_77) rfl ((if0 _ _).trans (teq h9).2) ?_
    show Steps p.tables e below (T8.setTop (mkF m 80 #[.val (.ref a1), .val (.int (255 : Int32)), .val (.ref a3), .val (.int (1 : Int32)), .val (.int (fcp10 c0 cz))] [])) _
    refine XS.aloadN X8.here hx rfl (hb hby d11_80) rfl rfl ?_
    show Steps p.tables e below (T8.setTop (mkF m 81 #[.val (.ref a1), .val (.int (255 : Int32)), .val (.ref a3), .val (.int (1 : Int32)), .val (.int (fcp10 c0 cz))] [(.ref a1)])) _
    refine st10.trans ?_
    show Steps p.tables e below (T10.setTop (mkF m 84 #[.val (.ref a1), .val (.int (255 : Int32)), .val (.ref a3), .val (.int (1 : Int32)), .val (.int (fcp10 c0 cz))] [(.int (1 : Int32))])) _
    refine XS.iloadN X10.here hx rfl (hb hby d11_84) rfl ?_
    show Steps p.tables e below (T10.setTop (mkF m 85 #[.val (.ref a1), .val (.int (255 : Int32)), .val (.ref a3), .val (.int (1 : Int32)), .val (.int (fcp10 c0 cz))] [(.int (255 : Int32)), (.int (1 : Int32))])) _
    refine XS.icmpYes X10.here hx rfl (pc0 := 85) (pc' := 107) rfl (hb hby d11_85) rfl (flt h11).2.2.2 (by decide) (by decide) ?_
    show Steps p.tables e below (T10.setTop (mkF m 107 #[.val (.ref a1), .val (.int (255 : Int32)), .val (.ref a3), .val (.int (1 : Int32)), .val (.int (fcp10 c0 cz))] [])) _
    refine XS.aloadN X10.here hx rfl (hb hby d11_107) rfl rfl ?_
    show Steps p.tables e below (T10.setTop (mkF m 108 #[.val (.ref a1), .val (.int (255 : Int32)), .val (.ref a3), .val (.int (1 : Int32)), .val (.int (fcp10 c0 cz))] [(.ref a1)])) _
    jvm_step X10.here [X10.here.top, hx, (hb hby d11_108), X10.method', Bd.returns, Value.isRef, FieldType.isReference]
    first | (intro acts; rw [hr _ acts rfl rfl rfl]) | rw [hr _ _ rfl rfl rfl]
    exact Steps.refl _
  · show Qrq1 Z a1 a3 c0 cz sf h0 n0 _ T10.heap _
    rw [e10]
    exact ⟨rfl, N10, rfl⟩
theorem pn_rq2 : plainName "com/example/hitotabi/hitotabi/PrintableAscii" = true := by first | (simp [plainName, overriddenIn]; done) | decide +kernel
theorem ef_rq2 (m : MethodId) (a1 : Addr) (a3 : Addr) : entryFrame m #[(.ref a1), (.int (255 : Int32)), (.ref a3)] 5 = mkF m 0 #[.val (.ref a1), .val (.int (255 : Int32)), .val (.ref a3), .unset, .unset] [] := by first | (simp [entryFrame, mkF, argsToLocals, Value.category]; done) | rfl
def Qrq2 (Z : State) (a1 : Addr) (a3 : Addr) (c0 : Int32) (c1 : Int32) (cz : Int32) (sf : Value) (h0 : Heap) (n0 : Nat) (v : Option Value) (h : Heap) (L : List Loc) : Prop := v = some (.ref a1) ∧ Fr n0 L ∧ h = h0
set_option maxRecDepth 65536 in
set_option maxHeartbeats 40000000 in
theorem rmrq2 (l : Launch) (Z : State) (a0 : Array Value) (hw : ∀ d ∈ tables_1, d.before a0 Z = true) (ws : List Jvm.Cond) (a1 : Addr) (a3 : Addr) (c0 : Int32) (c1 : Int32) (cz : Int32) (sf : Value) (h0 : Heap) (n0 : Nat) (Z0 : n0 ≤ h0.size) (OLD : Old Z n0 h0) (T_a1 : own_Str Z h0 a1 ([c0, c1] : List Int32)) (pr0 : own_pr c0) (pr1 : own_pr c1) (hCS : Sta Z Z.heap "java/lang/String" "COMPACT_STRINGS" "Z" (.int cz)) (hcz : ¬ cz = 0) (hSF : Sta Z Z.heap "jdk/internal/util/Preconditions" "SIOOBE_FORMATTER" "Ljava/util/function/BiFunction;" sf) (hsf : sf = .null ∨ ∃ g, sf = .ref g) :
    MetFree l (⟨"com/example/hitotabi/hitotabi/PrintableAscii", "require", "(Ljava/lang/String;ILjava/lang/String;)Ljava/lang/String;"⟩ : MethodName) (head1 (Jvm.Cond.code (⟨"com/example/hitotabi/hitotabi/PrintableAscii", "require", "(Ljava/lang/String;ILjava/lang/String;)Ljava/lang/String;"⟩ : MethodName) prog_28_method_2_code 5 (some (.object "java/lang/String")) :: ws) ({ frames := 3, cells := 0, slots := 0, locals := 41 } : Room)) (fun a U => a = #[(.ref a1), (.int (255 : Int32)), (.ref a3)] ∧ Z.Warmed39 U.vm ∧ U.heap = h0) (fun _ _ _ _ _ => True) (fun _ U o U' => ∃ v L, o = .returned v ∧ Qrq2 Z a1 a3 c0 c1 cz sf h0 n0 v U'.heap L ∧ FrameEnd U o U' L ({ frames := 3, cells := 0, slots := 0, locals := 41 } : Room).cells ({ frames := 3, cells := 0, slots := 0, locals := 41 } : Room).slots) := by
  refine MetFree.of_bodySF (plainFor_of_name pn_rq2) hisR ?_
  intro p e s m args below meth c s₁ Bd hml0 hP hK
  obtain ⟨rfl, hZ, hh⟩ := hP
  have hx := Bd.exec
  have hby := Bd.bytes
  have hml : c.maxLocals = 5 := hml0
  have hown : s.vm.findClass "com/example/hitotabi/hitotabi/PrintableAscii" = some m.cls := findClass_of_methodNamed Bd.named
  have hnm := (name_of_methodNamed Bd.named Bd.method).1
  have X0 : Stand p l e ({ frames := 3, cells := 0, slots := 0, locals := 41 } : Room) s m #[(.ref a1), (.int (255 : Int32)), (.ref a3)] below meth c s₁ [] 0 0 := Stand.of_body Bd
  have e0 : s₁.heap = h0 := by rw [← hh, Bd.state]; rfl
  have N0 := Fr.nil n0
  have pre0 : ∀ t, Steps p.tables e below (s₁.setTop (mkF m 0 #[.val (.ref a1), .val (.int (255 : Int32)), .val (.ref a3), .unset, .unset] [])) t → Steps p.tables e below (s₁.setTop (entryFrame m #[(.ref a1), (.int (255 : Int32)), (.ref a3)] 5)) t := fun t k => castTop (ef_rq2 m a1 a3) k
  refine own_step (Q := fun o U' => ∃ v L, o = .returned v ∧ Qrq2 Z a1 a3 c0 c1 cz sf h0 n0 v U'.heap L ∧ FrameEnd s o U' L ({ frames := 3, cells := 0, slots := 0, locals := 41 } : Room).cells ({ frames := 3, cells := 0, slots := 0, locals := 41 } : Room).slots) pre0 ?_
  obtain ⟨ta1, ka1, na1, va1, xa1, fa1, ga1, ra1, da1, ba1, la1⟩ := id T_a1
  obtain ⟨cq1, kq1, q1a, q1b, q1c⟩ := isOf hZ e0 xa1
  obtain ⟨_, _, ⟨T1, L1, k1, n1⟩, -, X1, ⟨Lc1, hQ1, l1, y1, z1⟩, st1⟩ := X0.virtualBack hx (y := (⟨"java/lang/String", "length", "()I"⟩ : MethodName)) (z := (⟨"java/lang/String", "length", "()I"⟩ : MethodName)) hown (mvT hZ (hw _ (List.mem_of_getElem? (i := 56) rfl))) (mvT hZ (hw _ (List.mem_of_getElem? (i := 57) rfl))) (notFace_of_selects (args := #[]) (mvT hZ (hw _ (List.mem_of_getElem? (i := 59) rfl)))) (mvT hZ (hw _ (List.mem_of_getElem? (i := 59) rfl))) (mvT hZ (hw _ (List.mem_of_getElem? (i := 58) rfl))) (by decide) (StrChars.Road.lenW (W := 1) hZ (own_wLen hw) (kI := 4) (hw _ (List.mem_of_getElem? (i := 11) rfl)) xa1 fa1 ga1 ra1 da1 ba1 (Sta.ext OLD.2 hCS) hcz la1 (by decide) (by decide)) q1a q1c (g := (mkF m 4 #[.val (.ref a1), .val (.int (255 : Int32)), .val (.ref a3), .val (.int (0 : Int32)), .unset] [(.ref a1), (.int (0 : Int32))])) rfl (by rw [hml]; rfl) (Steps.refl _) (argsL := []) (rest := [(.int (0 : Int32))]) (lenOf pd_3 rfl) rfl (by show 2 * 0 + _ ≤ _; exact Nat.le_of_eq rfl) (hb hby d11_4) (fun _ _ => ⟨rfl, e0, (by decide : 0 + 0 ≤ _), (by decide : 0 + 0 ≤ _)⟩)
  dsimp only [Pt.U, Pt.locs, Pt.cells, Pt.slots] at X1 l1 y1 z1 st1 hQ1
  subst l1 y1 z1
  obtain ⟨hv1, rfl, e1⟩ := hQ1
  obtain rfl := own_lenv (cs := ([c0, c1] : List Int32)) (z := (2 : Int32)) rfl hv1
  have N1 := Fr.app N0 (Fr.nil n0)
  have h2 : (0 : Int32) < (2 : Int32) := by decide
  obtain ⟨cq3, kq3, q3a, q3b, q3c⟩ := isOf hZ e1 (own_Str.exa T_a1)
  obtain ⟨_, _, ⟨T3, L3, k3, n3⟩, -, X3, ⟨Lc3, hQ3, l3, y3, z3⟩, st3⟩ := X1.virtualBack hx (y := (⟨"java/lang/String", "codePointAt", "(I)I"⟩ : MethodName)) (z := (⟨"java/lang/String", "codePointAt", "(I)I"⟩ : MethodName)) hown (mvT hZ (hw _ (List.mem_of_getElem? (i := 66) rfl))) (mvT hZ (hw _ (List.mem_of_getElem? (i := 67) rfl))) (notFace_of_selects (args := #[]) (mvT hZ (hw _ (List.mem_of_getElem? (i := 69) rfl)))) (mvT hZ (hw _ (List.mem_of_getElem? (i := 69) rfl))) (mvT hZ (hw _ (List.mem_of_getElem? (i := 68) rfl))) (by decide) (backOf (W := 0) (rmcp20 l Z a0 hw [] a1 c0 c1 cz sf h0 n0 Z0 OLD T_a1 hCS hcz hSF hsf) hZ (hw _ (List.mem_of_getElem? (i := 70) rfl)) (hw _ (List.mem_of_getElem? (i := 12) rfl)) (by decide) (by decide)) q3a q3c (g := (mkF m 12 #[.val (.ref a1), .val (.int (255 : Int32)), .val (.ref a3), .val (.int (0 : Int32)), .unset] [(.int (0 : Int32)), (.ref a1)])) rfl (by rw [hml]; rfl) (Steps.refl _) (argsL := [(.int (0 : Int32))]) (rest := []) (lenOf pd_4 rfl) rfl (by show 2 * 0 + _ ≤ _; exact Nat.le_of_eq rfl) (hb hby d11_12) (fun _ _ => ⟨rfl, e1, (by decide : 0 + 0 ≤ _), (by decide : 0 + 0 ≤ _)⟩)
  dsimp only [Pt.U, Pt.locs, Pt.cells, Pt.slots] at X3 l3 y3 z3 st3 hQ3
  subst l3 y3 z3
  obtain ⟨rfl, N3q, e3⟩ := hQ3
  have N3 := Fr.app N1 N3q
  have h4 : ¬ ((fcp20 c0 c1 cz) < (32 : Int32)) := (by show ¬ (c0.toInt8.toInt32 &&& (255 : Int32)) < (32 : Int32); exact (own_cpA pr0).1)
  have h5 : ¬ ((126 : Int32) < (fcp20 c0 c1 cz)) := (by show ¬ (126 : Int32) < (c0.toInt8.toInt32 &&& (255 : Int32)); exact (own_cpA pr0).2)
  obtain ⟨ta6, ka6, na6, va6, xa6, fa6, ga6, ra6, da6, ba6, la6⟩ := id T_a1
  obtain ⟨cq6, kq6, q6a, q6b, q6c⟩ := isOf hZ e3 xa6
  obtain ⟨_, _, ⟨T6, L6, k6, n6⟩, -, X6, ⟨Lc6, hQ6, l6, y6, z6⟩, st6⟩ := X3.virtualBack hx (y := (⟨"java/lang/String", "length", "()I"⟩ : MethodName)) (z := (⟨"java/lang/String", "length", "()I"⟩ : MethodName)) hown (mvT hZ (hw _ (List.mem_of_getElem? (i := 56) rfl))) (mvT hZ (hw _ (List.mem_of_getElem? (i := 57) rfl))) (notFace_of_selects (args := #[]) (mvT hZ (hw _ (List.mem_of_getElem? (i := 59) rfl)))) (mvT hZ (hw _ (List.mem_of_getElem? (i := 59) rfl))) (mvT hZ (hw _ (List.mem_of_getElem? (i := 58) rfl))) (by decide) (StrChars.Road.lenW (W := 1) hZ (own_wLen hw) (kI := 4) (hw _ (List.mem_of_getElem? (i := 11) rfl)) xa6 fa6 ga6 ra6 da6 ba6 (Sta.ext OLD.2 hCS) hcz la6 (by decide) (by decide)) q6a q6c (g := (mkF m 4 #[.val (.ref a1), .val (.int (255 : Int32)), .val (.ref a3), .val (.int (1 : Int32)), .val (.int (fcp20 c0 c1 cz))] [(.ref a1), (.int (1 : Int32))])) rfl (by rw [hml]; rfl) (Steps.refl _) (argsL := []) (rest := [(.int (1 : Int32))]) (lenOf pd_3 rfl) rfl (by show 2 * 0 + _ ≤ _; exact Nat.le_of_eq rfl) (hb hby d11_4) (fun _ _ => ⟨rfl, e3, (by decide : 0 + 0 ≤ _), (by decide : 0 + 0 ≤ _)⟩)
  dsimp only [Pt.U, Pt.locs, Pt.cells, Pt.slots] at X6 l6 y6 z6 st6 hQ6
  subst l6 y6 z6
  obtain ⟨hv6, rfl, e6⟩ := hQ6
  obtain rfl := own_lenv (cs := ([c0, c1] : List Int32)) (z := (2 : Int32)) rfl hv6
  have N6 := Fr.app N3 (Fr.nil n0)
  have h7 : (1 : Int32) < (2 : Int32) := by decide
  obtain ⟨cq8, kq8, q8a, q8b, q8c⟩ := isOf hZ e6 (own_Str.exa T_a1)
  obtain ⟨_, _, ⟨T8, L8, k8, n8⟩, -, X8, ⟨Lc8, hQ8, l8, y8, z8⟩, st8⟩ := X6.virtualBack hx (y := (⟨"java/lang/String", "codePointAt", "(I)I"⟩ : MethodName)) (z := (⟨"java/lang/String", "codePointAt", "(I)I"⟩ : MethodName)) hown (mvT hZ (hw _ (List.mem_of_getElem? (i := 66) rfl))) (mvT hZ (hw _ (List.mem_of_getElem? (i := 67) rfl))) (notFace_of_selects (args := #[]) (mvT hZ (hw _ (List.mem_of_getElem? (i := 69) rfl)))) (mvT hZ (hw _ (List.mem_of_getElem? (i := 69) rfl))) (mvT hZ (hw _ (List.mem_of_getElem? (i := 68) rfl))) (by decide) (backOf (W := 0) (rmcp21 l Z a0 hw [] a1 c0 c1 cz sf h0 n0 Z0 OLD T_a1 hCS hcz hSF hsf) hZ (hw _ (List.mem_of_getElem? (i := 70) rfl)) (hw _ (List.mem_of_getElem? (i := 12) rfl)) (by decide) (by decide)) q8a q8c (g := (mkF m 12 #[.val (.ref a1), .val (.int (255 : Int32)), .val (.ref a3), .val (.int (1 : Int32)), .val (.int (fcp20 c0 c1 cz))] [(.int (1 : Int32)), (.ref a1)])) rfl (by rw [hml]; rfl) (Steps.refl _) (argsL := [(.int (1 : Int32))]) (rest := []) (lenOf pd_4 rfl) rfl (by show 2 * 0 + _ ≤ _; exact Nat.le_of_eq rfl) (hb hby d11_12) (fun _ _ => ⟨rfl, e6, (by decide : 0 + 0 ≤ _), (by decide : 0 + 0 ≤ _)⟩)
  dsimp only [Pt.U, Pt.locs, Pt.cells, Pt.slots] at X8 l8 y8 z8 st8 hQ8
  subst l8 y8 z8
  obtain ⟨rfl, N8q, e8⟩ := hQ8
  have N8 := Fr.app N6 N8q
  have h9 : ¬ ((fcp21 c0 c1 cz) < (32 : Int32)) := (by show ¬ (c1.toInt8.toInt32 &&& (255 : Int32)) < (32 : Int32); exact (own_cpA pr1).1)
  have h10 : ¬ ((126 : Int32) < (fcp21 c0 c1 cz)) := (by show ¬ (126 : Int32) < (c1.toInt8.toInt32 &&& (255 : Int32)); exact (own_cpA pr1).2)
  obtain ⟨ta11, ka11, na11, va11, xa11, fa11, ga11, ra11, da11, ba11, la11⟩ := id T_a1
  obtain ⟨cq11, kq11, q11a, q11b, q11c⟩ := isOf hZ e8 xa11
  obtain ⟨_, _, ⟨T11, L11, k11, n11⟩, -, X11, ⟨Lc11, hQ11, l11, y11, z11⟩, st11⟩ := X8.virtualBack hx (y := (⟨"java/lang/String", "length", "()I"⟩ : MethodName)) (z := (⟨"java/lang/String", "length", "()I"⟩ : MethodName)) hown (mvT hZ (hw _ (List.mem_of_getElem? (i := 56) rfl))) (mvT hZ (hw _ (List.mem_of_getElem? (i := 57) rfl))) (notFace_of_selects (args := #[]) (mvT hZ (hw _ (List.mem_of_getElem? (i := 59) rfl)))) (mvT hZ (hw _ (List.mem_of_getElem? (i := 59) rfl))) (mvT hZ (hw _ (List.mem_of_getElem? (i := 58) rfl))) (by decide) (StrChars.Road.lenW (W := 1) hZ (own_wLen hw) (kI := 4) (hw _ (List.mem_of_getElem? (i := 11) rfl)) xa11 fa11 ga11 ra11 da11 ba11 (Sta.ext OLD.2 hCS) hcz la11 (by decide) (by decide)) q11a q11c (g := (mkF m 4 #[.val (.ref a1), .val (.int (255 : Int32)), .val (.ref a3), .val (.int (2 : Int32)), .val (.int (fcp21 c0 c1 cz))] [(.ref a1), (.int (2 : Int32))])) rfl (by rw [hml]; rfl) (Steps.refl _) (argsL := []) (rest := [(.int (2 : Int32))]) (lenOf pd_3 rfl) rfl (by show 2 * 0 + _ ≤ _; exact Nat.le_of_eq rfl) (hb hby d11_4) (fun _ _ => ⟨rfl, e8, (by decide : 0 + 0 ≤ _), (by decide : 0 + 0 ≤ _)⟩)
  dsimp only [Pt.U, Pt.locs, Pt.cells, Pt.slots] at X11 l11 y11 z11 st11 hQ11
  subst l11 y11 z11
  obtain ⟨hv11, rfl, e11⟩ := hQ11
  obtain rfl := own_lenv (cs := ([c0, c1] : List Int32)) (z := (2 : Int32)) rfl hv11
  have N11 := Fr.app N8 (Fr.nil n0)
  have h12 : ¬ ((2 : Int32) < (2 : Int32)) := by decide
  obtain ⟨ta13, ka13, na13, va13, xa13, fa13, ga13, ra13, da13, ba13, la13⟩ := id T_a1
  obtain ⟨cq13, kq13, q13a, q13b, q13c⟩ := isOf hZ e11 xa13
  obtain ⟨_, _, ⟨T13, L13, k13, n13⟩, -, X13, ⟨Lc13, hQ13, l13, y13, z13⟩, st13⟩ := X11.virtualBack hx (y := (⟨"java/lang/String", "isEmpty", "()Z"⟩ : MethodName)) (z := (⟨"java/lang/String", "isEmpty", "()Z"⟩ : MethodName)) hown (mvT hZ (hw _ (List.mem_of_getElem? (i := 84) rfl))) (mvT hZ (hw _ (List.mem_of_getElem? (i := 85) rfl))) (notFace_of_selects (args := #[]) (mvT hZ (hw _ (List.mem_of_getElem? (i := 87) rfl)))) (mvT hZ (hw _ (List.mem_of_getElem? (i := 87) rfl))) (mvT hZ (hw _ (List.mem_of_getElem? (i := 86) rfl))) (by decide) (StrChars.Road.empW (W := 0) hZ (own_wEmp hw) (kI := 4) (hw _ (List.mem_of_getElem? (i := 11) rfl)) xa13 fa13 ga13 ra13 da13 ba13 la13 (by decide) (by decide)) q13a q13c (g := (mkF m 74 #[.val (.ref a1), .val (.int (255 : Int32)), .val (.ref a3), .val (.int (2 : Int32)), .val (.int (fcp21 c0 c1 cz))] [(.ref a1)])) rfl (by rw [hml]; rfl) (Steps.refl _) (argsL := []) (rest := []) (lenOf pd_1 rfl) rfl (by show 2 * 0 + _ ≤ _; exact Nat.le_of_eq rfl) (hb hby d11_74) (fun _ _ => ⟨rfl, e11, (by decide : 0 + 0 ≤ _), (by decide : 0 + 0 ≤ _)⟩)
  dsimp only [Pt.U, Pt.locs, Pt.cells, Pt.slots] at X13 l13 y13 z13 st13 hQ13
  subst l13 y13 z13
  obtain ⟨hv13, rfl, e13⟩ := hQ13
  obtain rfl := own_empv (cs := ([c0, c1] : List Int32)) (by show ¬ 2 = 0; decide) hv13
  have N13 := Fr.app N11 (Fr.nil n0)
  have h14 : (0 : Int32) = (0 : Int32) := by decide
  obtain ⟨ta15, ka15, na15, va15, xa15, fa15, ga15, ra15, da15, ba15, la15⟩ := id T_a1
  obtain ⟨cq15, kq15, q15a, q15b, q15c⟩ := isOf hZ e13 xa15
  obtain ⟨_, _, ⟨T15, L15, k15, n15⟩, -, X15, ⟨Lc15, hQ15, l15, y15, z15⟩, st15⟩ := X13.virtualBack hx (y := (⟨"java/lang/String", "length", "()I"⟩ : MethodName)) (z := (⟨"java/lang/String", "length", "()I"⟩ : MethodName)) hown (mvT hZ (hw _ (List.mem_of_getElem? (i := 56) rfl))) (mvT hZ (hw _ (List.mem_of_getElem? (i := 57) rfl))) (notFace_of_selects (args := #[]) (mvT hZ (hw _ (List.mem_of_getElem? (i := 59) rfl)))) (mvT hZ (hw _ (List.mem_of_getElem? (i := 59) rfl))) (mvT hZ (hw _ (List.mem_of_getElem? (i := 58) rfl))) (by decide) (StrChars.Road.lenW (W := 0) hZ (own_wLen hw) (kI := 4) (hw _ (List.mem_of_getElem? (i := 11) rfl)) xa15 fa15 ga15 ra15 da15 ba15 (Sta.ext OLD.2 hCS) hcz la15 (by decide) (by decide)) q15a q15c (g := (mkF m 81 #[.val (.ref a1), .val (.int (255 : Int32)), .val (.ref a3), .val (.int (2 : Int32)), .val (.int (fcp21 c0 c1 cz))] [(.ref a1)])) rfl (by rw [hml]; rfl) (Steps.refl _) (argsL := []) (rest := []) (lenOf pd_3 rfl) rfl (by show 2 * 0 + _ ≤ _; exact Nat.le_of_eq rfl) (hb hby d11_81) (fun _ _ => ⟨rfl, e13, (by decide : 0 + 0 ≤ _), (by decide : 0 + 0 ≤ _)⟩)
  dsimp only [Pt.U, Pt.locs, Pt.cells, Pt.slots] at X15 l15 y15 z15 st15 hQ15
  subst l15 y15 z15
  obtain ⟨hv15, rfl, e15⟩ := hQ15
  obtain rfl := own_lenv (cs := ([c0, c1] : List Int32)) (z := (2 : Int32)) rfl hv15
  have N15 := Fr.app N13 (Fr.nil n0)
  have h16 : ¬ ((255 : Int32) < (2 : Int32)) := by decide
  obtain ⟨fs, hr, hrun, hended, hW, hsame⟩ := X15.leave (v := some (.ref a1)) (fun h => by rw [Bd.returns] at h; cases h)
  refine ⟨_, _, ?_, hrun, hended, _, _, rfl, ?_, ⟨_, rfl⟩, hW, hsame.mono (by decide) (by decide)⟩
  · show Steps p.tables e below (s₁.setTop (mkF m 0 #[.val (.ref a1), .val (.int (255 : Int32)), .val (.ref a3), .unset, .unset] [])) _
    refine XS.iconst X0.here hx rfl (hb hby d11_0) ?_
    show Steps p.tables e below (s₁.setTop (mkF m 1 #[.val (.ref a1), .val (.int (255 : Int32)), .val (.ref a3), .unset, .unset] [(.int (0 : Int32))])) _
    refine XS.istoreN X0.here hx rfl (hb hby d11_1) rfl (l' := #[.val (.ref a1), .val (.int (255 : Int32)), .val (.ref a3), .val (.int (0 : Int32)), .unset]) rfl ?_
    show Steps p.tables e below (s₁.setTop (mkF m 2 #[.val (.ref a1), .val (.int (255 : Int32)), .val (.ref a3), .val (.int (0 : Int32)), .unset] [])) _
    refine XS.iloadN X0.here hx rfl (hb hby d11_2) rfl ?_
    show Steps p.tables e below (s₁.setTop (mkF m 3 #[.val (.ref a1), .val (.int (255 : Int32)), .val (.ref a3), .val (.int (0 : Int32)), .unset] [(.int (0 : Int32))])) _
    refine XS.aloadN X0.here hx rfl (hb hby d11_3) rfl rfl ?_
    show Steps p.tables e below (s₁.setTop (mkF m 4 #[.val (.ref a1), .val (.int (255 : Int32)), .val (.ref a3), .val (.int (0 : Int32)), .unset] [(.ref a1), (.int (0 : Int32))])) _
    refine st1.trans ?_
    show Steps p.tables e below (T1.setTop (mkF m 7 #[.val (.ref a1), .val (.int (255 : Int32)), .val (.ref a3), .val (.int (0 : Int32)), .unset] [(.int (2 : Int32)), (.int (0 : Int32))])) _
    refine XS.icmpNo X1.here hx rfl (hb hby d11_7) rfl (tlt h2).2.1 ?_
    show Steps p.tables e below (T1.setTop (mkF m 10 #[.val (.ref a1), .val (.int (255 : Int32)), .val (.ref a3), .val (.int (0 : Int32)), .unset] [])) _
    refine XS.aloadN X1.here hx rfl (hb hby d11_10) rfl rfl ?_
    show Steps p.tables e below (T1.setTop (mkF m 11 #[.val (.ref a1), .val (.int (255 : Int32)), .val (.ref a3), .val (.int (0 : Int32)), .unset] [(.ref a1)])) _
    refine XS.iloadN X1.here hx rfl (hb hby d11_11) rfl ?_
    show Steps p.tables e below (T1.setTop (mkF m 12 #[.val (.ref a1), .val (.int (255 : Int32)), .val (.ref a3), .val (.int (0 : Int32)), .unset] [(.int (0 : Int32)), (.ref a1)])) _
    refine st3.trans ?_
    show Steps p.tables e below (T3.setTop (mkF m 15 #[.val (.ref a1), .val (.int (255 : Int32)), .val (.ref a3), .val (.int (0 : Int32)), .unset] [(.int (fcp20 c0 c1 cz))])) _
    refine XS.istore X3.here hx rfl (hb hby d11_15) rfl (l' := #[.val (.ref a1), .val (.int (255 : Int32)), .val (.ref a3), .val (.int (0 : Int32)), .val (.int (fcp20 c0 c1 cz))]) rfl ?_
    show Steps p.tables e below (T3.setTop (mkF m 17 #[.val (.ref a1), .val (.int (255 : Int32)), .val (.ref a3), .val (.int (0 : Int32)), .val (.int (fcp20 c0 c1 cz))] [])) _
    refine XS.iload X3.here hx rfl (hb hby d11_17) rfl ?_
    show Steps p.tables e below (T3.setTop (mkF m 19 #[.val (.ref a1), .val (.int (255 : Int32)), .val (.ref a3), .val (.int (0 : Int32)), .val (.int (fcp20 c0 c1 cz))] [(.int (fcp20 c0 c1 cz))])) _
    refine XS.bipush X3.here hx rfl (hb hby d11_19) ?_
    show Steps p.tables e below (T3.setTop (mkF m 21 #[.val (.ref a1), .val (.int (255 : Int32)), .val (.ref a3), .val (.int (0 : Int32)), .val (.int (fcp20 c0 c1 cz))] [(.int (32 : Int32)), (.int (fcp20 c0 c1 cz))])) _
    refine XS.icmpNo X3.here hx rfl (hb hby d11_21) rfl (flt h4).1 ?_
    show Steps p.tables e below (T3.setTop (mkF m 24 #[.val (.ref a1), .val (.int (255 : Int32)), .val (.ref a3), .val (.int (0 : Int32)), .val (.int (fcp20 c0 c1 cz))] [])) _
    refine XS.iload X3.here hx rfl (hb hby d11_24) rfl ?_
    show Steps p.tables e below (T3.setTop (mkF m 26 #[.val (.ref a1), .val (.int (255 : Int32)), .val (.ref a3), .val (.int (0 : Int32)), .val (.int (fcp20 c0 c1 cz))] [(.int (fcp20 c0 c1 cz))])) _
    refine XS.bipush X3.here hx rfl (hb hby d11_26) ?_
    show Steps p.tables e below (T3.setTop (mkF m 28 #[.val (.ref a1), .val (.int (255 : Int32)), .val (.ref a3), .val (.int (0 : Int32)), .val (.int (fcp20 c0 c1 cz))] [(.int (126 : Int32)), (.int (fcp20 c0 c1 cz))])) _
    refine XS.icmpYes X3.here hx rfl (pc0 := 28) (pc' := 67) rfl (hb hby d11_28) rfl (flt h5).2.2.2 (by decide) (by decide) ?_
    show Steps p.tables e below (T3.setTop (mkF m 67 #[.val (.ref a1), .val (.int (255 : Int32)), .val (.ref a3), .val (.int (0 : Int32)), .val (.int (fcp20 c0 c1 cz))] [])) _
    refine XS.iinc X3.here hx rfl (hb hby d11_67) rfl (l' := #[.val (.ref a1), .val (.int (255 : Int32)), .val (.ref a3), .val (.int (1 : Int32)), .val (.int (fcp20 c0 c1 cz))]) rfl ?_
    show Steps p.tables e below (T3.setTop (mkF m 70 #[.val (.ref a1), .val (.int (255 : Int32)), .val (.ref a3), .val (.int (1 : Int32)), .val (.int (fcp20 c0 c1 cz))] [])) _
    refine XS.goto X3.here hx rfl (pc0 := 70) (pc' := 2) rfl (hb hby d11_70) (by decide) (by decide) ?_
    show Steps p.tables e below (T3.setTop (mkF m 2 #[.val (.ref a1), .val (.int (255 : Int32)), .val (.ref a3), .val (.int (1 : Int32)), .val (.int (fcp20 c0 c1 cz))] [])) _
    refine XS.iloadN X3.here hx rfl (hb hby d11_2) rfl ?_
    show Steps p.tables e below (T3.setTop (mkF m 3 #[.val (.ref a1), .val (.int (255 : Int32)), .val (.ref a3), .val (.int (1 : Int32)), .val (.int (fcp20 c0 c1 cz))] [(.int (1 : Int32))])) _
    refine XS.aloadN X3.here hx rfl (hb hby d11_3) rfl rfl ?_
    show Steps p.tables e below (T3.setTop (mkF m 4 #[.val (.ref a1), .val (.int (255 : Int32)), .val (.ref a3), .val (.int (1 : Int32)), .val (.int (fcp20 c0 c1 cz))] [(.ref a1), (.int (1 : Int32))])) _
    refine st6.trans ?_
    show Steps p.tables e below (T6.setTop (mkF m 7 #[.val (.ref a1), .val (.int (255 : Int32)), .val (.ref a3), .val (.int (1 : Int32)), .val (.int (fcp20 c0 c1 cz))] [(.int (2 : Int32)), (.int (1 : Int32))])) _
    refine XS.icmpNo X6.here hx rfl (hb hby d11_7) rfl (tlt h7).2.1 ?_
    show Steps p.tables e below (T6.setTop (mkF m 10 #[.val (.ref a1), .val (.int (255 : Int32)), .val (.ref a3), .val (.int (1 : Int32)), .val (.int (fcp20 c0 c1 cz))] [])) _
    refine XS.aloadN X6.here hx rfl (hb hby d11_10) rfl rfl ?_
    show Steps p.tables e below (T6.setTop (mkF m 11 #[.val (.ref a1), .val (.int (255 : Int32)), .val (.ref a3), .val (.int (1 : Int32)), .val (.int (fcp20 c0 c1 cz))] [(.ref a1)])) _
    refine XS.iloadN X6.here hx rfl (hb hby d11_11) rfl ?_
    show Steps p.tables e below (T6.setTop (mkF m 12 #[.val (.ref a1), .val (.int (255 : Int32)), .val (.ref a3), .val (.int (1 : Int32)), .val (.int (fcp20 c0 c1 cz))] [(.int (1 : Int32)), (.ref a1)])) _
    refine st8.trans ?_
    show Steps p.tables e below (T8.setTop (mkF m 15 #[.val (.ref a1), .val (.int (255 : Int32)), .val (.ref a3), .val (.int (1 : Int32)), .val (.int (fcp20 c0 c1 cz))] [(.int (fcp21 c0 c1 cz))])) _
    refine XS.istore X8.here hx rfl (hb hby d11_15) rfl (l' := #[.val (.ref a1), .val (.int (255 : Int32)), .val (.ref a3), .val (.int (1 : Int32)), .val (.int (fcp21 c0 c1 cz))]) rfl ?_
    show Steps p.tables e below (T8.setTop (mkF m 17 #[.val (.ref a1), .val (.int (255 : Int32)), .val (.ref a3), .val (.int (1 : Int32)), .val (.int (fcp21 c0 c1 cz))] [])) _
    refine XS.iload X8.here hx rfl (hb hby d11_17) rfl ?_
    show Steps p.tables e below (T8.setTop (mkF m 19 #[.val (.ref a1), .val (.int (255 : Int32)), .val (.ref a3), .val (.int (1 : Int32)), .val (.int (fcp21 c0 c1 cz))] [(.int (fcp21 c0 c1 cz))])) _
    refine XS.bipush X8.here hx rfl (hb hby d11_19) ?_
    show Steps p.tables e below (T8.setTop (mkF m 21 #[.val (.ref a1), .val (.int (255 : Int32)), .val (.ref a3), .val (.int (1 : Int32)), .val (.int (fcp21 c0 c1 cz))] [(.int (32 : Int32)), (.int (fcp21 c0 c1 cz))])) _
    refine XS.icmpNo X8.here hx rfl (hb hby d11_21) rfl (flt h9).1 ?_
    show Steps p.tables e below (T8.setTop (mkF m 24 #[.val (.ref a1), .val (.int (255 : Int32)), .val (.ref a3), .val (.int (1 : Int32)), .val (.int (fcp21 c0 c1 cz))] [])) _
    refine XS.iload X8.here hx rfl (hb hby d11_24) rfl ?_
    show Steps p.tables e below (T8.setTop (mkF m 26 #[.val (.ref a1), .val (.int (255 : Int32)), .val (.ref a3), .val (.int (1 : Int32)), .val (.int (fcp21 c0 c1 cz))] [(.int (fcp21 c0 c1 cz))])) _
    refine XS.bipush X8.here hx rfl (hb hby d11_26) ?_
    show Steps p.tables e below (T8.setTop (mkF m 28 #[.val (.ref a1), .val (.int (255 : Int32)), .val (.ref a3), .val (.int (1 : Int32)), .val (.int (fcp21 c0 c1 cz))] [(.int (126 : Int32)), (.int (fcp21 c0 c1 cz))])) _
    refine XS.icmpYes X8.here hx rfl (pc0 := 28) (pc' := 67) rfl (hb hby d11_28) rfl (flt h10).2.2.2 (by decide) (by decide) ?_
    show Steps p.tables e below (T8.setTop (mkF m 67 #[.val (.ref a1), .val (.int (255 : Int32)), .val (.ref a3), .val (.int (1 : Int32)), .val (.int (fcp21 c0 c1 cz))] [])) _
    refine XS.iinc X8.here hx rfl (hb hby d11_67) rfl (l' := #[.val (.ref a1), .val (.int (255 : Int32)), .val (.ref a3), .val (.int (2 : Int32)), .val (.int (fcp21 c0 c1 cz))]) rfl ?_
    show Steps p.tables e below (T8.setTop (mkF m 70 #[.val (.ref a1), .val (.int (255 : Int32)), .val (.ref a3), .val (.int (2 : Int32)), .val (.int (fcp21 c0 c1 cz))] [])) _
    refine XS.goto X8.here hx rfl (pc0 := 70) (pc' := 2) rfl (hb hby d11_70) (by decide) (by decide) ?_
    show Steps p.tables e below (T8.setTop (mkF m 2 #[.val (.ref a1), .val (.int (255 : Int32)), .val (.ref a3), .val (.int (2 : Int32)), .val (.int (fcp21 c0 c1 cz))] [])) _
    refine XS.iloadN X8.here hx rfl (hb hby d11_2) rfl ?_
    show Steps p.tables e below (T8.setTop (mkF m 3 #[.val (.ref a1), .val (.int (255 : Int32)), .val (.ref a3), .val (.int (2 : Int32)), .val (.int (fcp21 c0 c1 cz))] [(.int (2 : Int32))])) _
    refine XS.aloadN X8.here hx rfl (hb hby d11_3) rfl rfl ?_
    show Steps p.tables e below (T8.setTop (mkF m 4 #[.val (.ref a1), .val (.int (255 : Int32)), .val (.ref a3), .val (.int (2 : Int32)), .val (.int (fcp21 c0 c1 cz))] [(.ref a1), (.int (2 : Int32))])) _
    refine st11.trans ?_
    show Steps p.tables e below (T11.setTop (mkF m 7 #[.val (.ref a1), .val (.int (255 : Int32)), .val (.ref a3), .val (.int (2 : Int32)), .val (.int (fcp21 c0 c1 cz))] [(.int (2 : Int32)), (.int (2 : Int32))])) _
    refine XS.icmpYes X11.here hx rfl (pc0 := 7) (pc' := 73) rfl (hb hby d11_7) rfl (flt h12).2.1 (by decide) (by decide) ?_
    show Steps p.tables e below (T11.setTop (mkF m 73 #[.val (.ref a1), .val (.int (255 : Int32)), .val (.ref a3), .val (.int (2 : Int32)), .val (.int (fcp21 c0 c1 cz))] [])) _
    refine XS.aloadN X11.here hx rfl (hb hby d11_73) rfl rfl ?_
    show Steps p.tables e below (T11.setTop (mkF m 74 #[.val (.ref a1), .val (.int (255 : Int32)), .val (.ref a3), .val (.int (2 : Int32)), .val (.int (fcp21 c0 c1 cz))] [(.ref a1)])) _
    refine st13.trans ?_
    show Steps p.tables e below (T13.setTop (mkF m 77 #[.val (.ref a1), .val (.int (255 : Int32)), .val (.ref a3), .val (.int (2 : Int32)), .val (.int (fcp21 c0 c1 cz))] [(.int (0 : Int32))])) _
    refine XS.ifNo X13.here hx rfl (hb hby d11_77) rfl ((if0 _ _).trans (teq h14).2) ?_
    show Steps p.tables e below (T13.setTop (mkF m 80 #[.val (.ref a1), .val (.int (255 : Int32)), .val (.ref a3), .val (.int (2 : Int32)), .val (.int (fcp21 c0 c1 cz))] [])) _
    refine XS.aloadN X13.here hx rfl (hb hby d11_80) rfl rfl ?_
    show Steps p.tables e below (T13.setTop (mkF m 81 #[.val (.ref a1), .val (.int (255 : Int32)), .val (.ref a3), .val (.int (2 : Int32)), .val (.int (fcp21 c0 c1 cz))] [(.ref a1)])) _
    refine st15.trans ?_
    show Steps p.tables e below (T15.setTop (mkF m 84 #[.val (.ref a1), .val (.int (255 : Int32)), .val (.ref a3), .val (.int (2 : Int32)), .val (.int (fcp21 c0 c1 cz))] [(.int (2 : Int32))])) _
    refine XS.iloadN X15.here hx rfl (hb hby d11_84) rfl ?_
    show Steps p.tables e below (T15.setTop (mkF m 85 #[.val (.ref a1), .val (.int (255 : Int32)), .val (.ref a3), .val (.int (2 : Int32)), .val (.int (fcp21 c0 c1 cz))] [(.int (255 : Int32)), (.int (2 : Int32))])) _
    refine XS.icmpYes X15.here hx rfl (pc0 := 85) (pc' := 107) rfl (hb hby d11_85) rfl (flt h16).2.2.2 (by decide) (by decide) ?_
    show Steps p.tables e below (T15.setTop (mkF m 107 #[.val (.ref a1), .val (.int (255 : Int32)), .val (.ref a3), .val (.int (2 : Int32)), .val (.int (fcp21 c0 c1 cz))] [])) _
    refine XS.aloadN X15.here hx rfl (hb hby d11_107) rfl rfl ?_
    show Steps p.tables e below (T15.setTop (mkF m 108 #[.val (.ref a1), .val (.int (255 : Int32)), .val (.ref a3), .val (.int (2 : Int32)), .val (.int (fcp21 c0 c1 cz))] [(.ref a1)])) _
    jvm_step X15.here [X15.here.top, hx, (hb hby d11_108), X15.method', Bd.returns, Value.isRef, FieldType.isReference]
    first | (intro acts; rw [hr _ acts rfl rfl rfl]) | rw [hr _ _ rfl rfl rfl]
    exact Steps.refl _
  · show Qrq2 Z a1 a3 c0 c1 cz sf h0 n0 _ T15.heap _
    rw [e15]
    exact ⟨rfl, N15, rfl⟩
theorem pn_rq3 : plainName "com/example/hitotabi/hitotabi/PrintableAscii" = true := by first | (simp [plainName, overriddenIn]; done) | decide +kernel
theorem ef_rq3 (m : MethodId) (a1 : Addr) (a3 : Addr) : entryFrame m #[(.ref a1), (.int (255 : Int32)), (.ref a3)] 5 = mkF m 0 #[.val (.ref a1), .val (.int (255 : Int32)), .val (.ref a3), .unset, .unset] [] := by first | (simp [entryFrame, mkF, argsToLocals, Value.category]; done) | rfl
def Qrq3 (Z : State) (a1 : Addr) (a3 : Addr) (c0 : Int32) (c1 : Int32) (c2 : Int32) (cz : Int32) (sf : Value) (h0 : Heap) (n0 : Nat) (v : Option Value) (h : Heap) (L : List Loc) : Prop := v = some (.ref a1) ∧ Fr n0 L ∧ h = h0
set_option maxRecDepth 65536 in
set_option maxHeartbeats 40000000 in
theorem rmrq3 (l : Launch) (Z : State) (a0 : Array Value) (hw : ∀ d ∈ tables_1, d.before a0 Z = true) (ws : List Jvm.Cond) (a1 : Addr) (a3 : Addr) (c0 : Int32) (c1 : Int32) (c2 : Int32) (cz : Int32) (sf : Value) (h0 : Heap) (n0 : Nat) (Z0 : n0 ≤ h0.size) (OLD : Old Z n0 h0) (T_a1 : own_Str Z h0 a1 ([c0, c1, c2] : List Int32)) (pr0 : own_pr c0) (pr1 : own_pr c1) (pr2 : own_pr c2) (hCS : Sta Z Z.heap "java/lang/String" "COMPACT_STRINGS" "Z" (.int cz)) (hcz : ¬ cz = 0) (hSF : Sta Z Z.heap "jdk/internal/util/Preconditions" "SIOOBE_FORMATTER" "Ljava/util/function/BiFunction;" sf) (hsf : sf = .null ∨ ∃ g, sf = .ref g) :
    MetFree l (⟨"com/example/hitotabi/hitotabi/PrintableAscii", "require", "(Ljava/lang/String;ILjava/lang/String;)Ljava/lang/String;"⟩ : MethodName) (head1 (Jvm.Cond.code (⟨"com/example/hitotabi/hitotabi/PrintableAscii", "require", "(Ljava/lang/String;ILjava/lang/String;)Ljava/lang/String;"⟩ : MethodName) prog_28_method_2_code 5 (some (.object "java/lang/String")) :: ws) ({ frames := 3, cells := 0, slots := 0, locals := 41 } : Room)) (fun a U => a = #[(.ref a1), (.int (255 : Int32)), (.ref a3)] ∧ Z.Warmed39 U.vm ∧ U.heap = h0) (fun _ _ _ _ _ => True) (fun _ U o U' => ∃ v L, o = .returned v ∧ Qrq3 Z a1 a3 c0 c1 c2 cz sf h0 n0 v U'.heap L ∧ FrameEnd U o U' L ({ frames := 3, cells := 0, slots := 0, locals := 41 } : Room).cells ({ frames := 3, cells := 0, slots := 0, locals := 41 } : Room).slots) := by
  refine MetFree.of_bodySF (plainFor_of_name pn_rq3) hisR ?_
  intro p e s m args below meth c s₁ Bd hml0 hP hK
  obtain ⟨rfl, hZ, hh⟩ := hP
  have hx := Bd.exec
  have hby := Bd.bytes
  have hml : c.maxLocals = 5 := hml0
  have hown : s.vm.findClass "com/example/hitotabi/hitotabi/PrintableAscii" = some m.cls := findClass_of_methodNamed Bd.named
  have hnm := (name_of_methodNamed Bd.named Bd.method).1
  have X0 : Stand p l e ({ frames := 3, cells := 0, slots := 0, locals := 41 } : Room) s m #[(.ref a1), (.int (255 : Int32)), (.ref a3)] below meth c s₁ [] 0 0 := Stand.of_body Bd
  have e0 : s₁.heap = h0 := by rw [← hh, Bd.state]; rfl
  have N0 := Fr.nil n0
  have pre0 : ∀ t, Steps p.tables e below (s₁.setTop (mkF m 0 #[.val (.ref a1), .val (.int (255 : Int32)), .val (.ref a3), .unset, .unset] [])) t → Steps p.tables e below (s₁.setTop (entryFrame m #[(.ref a1), (.int (255 : Int32)), (.ref a3)] 5)) t := fun t k => castTop (ef_rq3 m a1 a3) k
  refine own_step (Q := fun o U' => ∃ v L, o = .returned v ∧ Qrq3 Z a1 a3 c0 c1 c2 cz sf h0 n0 v U'.heap L ∧ FrameEnd s o U' L ({ frames := 3, cells := 0, slots := 0, locals := 41 } : Room).cells ({ frames := 3, cells := 0, slots := 0, locals := 41 } : Room).slots) pre0 ?_
  obtain ⟨ta1, ka1, na1, va1, xa1, fa1, ga1, ra1, da1, ba1, la1⟩ := id T_a1
  obtain ⟨cq1, kq1, q1a, q1b, q1c⟩ := isOf hZ e0 xa1
  obtain ⟨_, _, ⟨T1, L1, k1, n1⟩, -, X1, ⟨Lc1, hQ1, l1, y1, z1⟩, st1⟩ := X0.virtualBack hx (y := (⟨"java/lang/String", "length", "()I"⟩ : MethodName)) (z := (⟨"java/lang/String", "length", "()I"⟩ : MethodName)) hown (mvT hZ (hw _ (List.mem_of_getElem? (i := 56) rfl))) (mvT hZ (hw _ (List.mem_of_getElem? (i := 57) rfl))) (notFace_of_selects (args := #[]) (mvT hZ (hw _ (List.mem_of_getElem? (i := 59) rfl)))) (mvT hZ (hw _ (List.mem_of_getElem? (i := 59) rfl))) (mvT hZ (hw _ (List.mem_of_getElem? (i := 58) rfl))) (by decide) (StrChars.Road.lenW (W := 1) hZ (own_wLen hw) (kI := 4) (hw _ (List.mem_of_getElem? (i := 11) rfl)) xa1 fa1 ga1 ra1 da1 ba1 (Sta.ext OLD.2 hCS) hcz la1 (by decide) (by decide)) q1a q1c (g := (mkF m 4 #[.val (.ref a1), .val (.int (255 : Int32)), .val (.ref a3), .val (.int (0 : Int32)), .unset] [(.ref a1), (.int (0 : Int32))])) rfl (by rw [hml]; rfl) (Steps.refl _) (argsL := []) (rest := [(.int (0 : Int32))]) (lenOf pd_3 rfl) rfl (by show 2 * 0 + _ ≤ _; exact Nat.le_of_eq rfl) (hb hby d11_4) (fun _ _ => ⟨rfl, e0, (by decide : 0 + 0 ≤ _), (by decide : 0 + 0 ≤ _)⟩)
  dsimp only [Pt.U, Pt.locs, Pt.cells, Pt.slots] at X1 l1 y1 z1 st1 hQ1
  subst l1 y1 z1
  obtain ⟨hv1, rfl, e1⟩ := hQ1
  obtain rfl := own_lenv (cs := ([c0, c1, c2] : List Int32)) (z := (3 : Int32)) rfl hv1
  have N1 := Fr.app N0 (Fr.nil n0)
  have h2 : (0 : Int32) < (3 : Int32) := by decide
  obtain ⟨cq3, kq3, q3a, q3b, q3c⟩ := isOf hZ e1 (own_Str.exa T_a1)
  obtain ⟨_, _, ⟨T3, L3, k3, n3⟩, -, X3, ⟨Lc3, hQ3, l3, y3, z3⟩, st3⟩ := X1.virtualBack hx (y := (⟨"java/lang/String", "codePointAt", "(I)I"⟩ : MethodName)) (z := (⟨"java/lang/String", "codePointAt", "(I)I"⟩ : MethodName)) hown (mvT hZ (hw _ (List.mem_of_getElem? (i := 66) rfl))) (mvT hZ (hw _ (List.mem_of_getElem? (i := 67) rfl))) (notFace_of_selects (args := #[]) (mvT hZ (hw _ (List.mem_of_getElem? (i := 69) rfl)))) (mvT hZ (hw _ (List.mem_of_getElem? (i := 69) rfl))) (mvT hZ (hw _ (List.mem_of_getElem? (i := 68) rfl))) (by decide) (backOf (W := 0) (rmcp30 l Z a0 hw [] a1 c0 c1 c2 cz sf h0 n0 Z0 OLD T_a1 hCS hcz hSF hsf) hZ (hw _ (List.mem_of_getElem? (i := 70) rfl)) (hw _ (List.mem_of_getElem? (i := 12) rfl)) (by decide) (by decide)) q3a q3c (g := (mkF m 12 #[.val (.ref a1), .val (.int (255 : Int32)), .val (.ref a3), .val (.int (0 : Int32)), .unset] [(.int (0 : Int32)), (.ref a1)])) rfl (by rw [hml]; rfl) (Steps.refl _) (argsL := [(.int (0 : Int32))]) (rest := []) (lenOf pd_4 rfl) rfl (by show 2 * 0 + _ ≤ _; exact Nat.le_of_eq rfl) (hb hby d11_12) (fun _ _ => ⟨rfl, e1, (by decide : 0 + 0 ≤ _), (by decide : 0 + 0 ≤ _)⟩)
  dsimp only [Pt.U, Pt.locs, Pt.cells, Pt.slots] at X3 l3 y3 z3 st3 hQ3
  subst l3 y3 z3
  obtain ⟨rfl, N3q, e3⟩ := hQ3
  have N3 := Fr.app N1 N3q
  have h4 : ¬ ((fcp30 c0 c1 c2 cz) < (32 : Int32)) := (by show ¬ (c0.toInt8.toInt32 &&& (255 : Int32)) < (32 : Int32); exact (own_cpA pr0).1)
  have h5 : ¬ ((126 : Int32) < (fcp30 c0 c1 c2 cz)) := (by show ¬ (126 : Int32) < (c0.toInt8.toInt32 &&& (255 : Int32)); exact (own_cpA pr0).2)
  obtain ⟨ta6, ka6, na6, va6, xa6, fa6, ga6, ra6, da6, ba6, la6⟩ := id T_a1
  obtain ⟨cq6, kq6, q6a, q6b, q6c⟩ := isOf hZ e3 xa6
  obtain ⟨_, _, ⟨T6, L6, k6, n6⟩, -, X6, ⟨Lc6, hQ6, l6, y6, z6⟩, st6⟩ := X3.virtualBack hx (y := (⟨"java/lang/String", "length", "()I"⟩ : MethodName)) (z := (⟨"java/lang/String", "length", "()I"⟩ : MethodName)) hown (mvT hZ (hw _ (List.mem_of_getElem? (i := 56) rfl))) (mvT hZ (hw _ (List.mem_of_getElem? (i := 57) rfl))) (notFace_of_selects (args := #[]) (mvT hZ (hw _ (List.mem_of_getElem? (i := 59) rfl)))) (mvT hZ (hw _ (List.mem_of_getElem? (i := 59) rfl))) (mvT hZ (hw _ (List.mem_of_getElem? (i := 58) rfl))) (by decide) (StrChars.Road.lenW (W := 1) hZ (own_wLen hw) (kI := 4) (hw _ (List.mem_of_getElem? (i := 11) rfl)) xa6 fa6 ga6 ra6 da6 ba6 (Sta.ext OLD.2 hCS) hcz la6 (by decide) (by decide)) q6a q6c (g := (mkF m 4 #[.val (.ref a1), .val (.int (255 : Int32)), .val (.ref a3), .val (.int (1 : Int32)), .val (.int (fcp30 c0 c1 c2 cz))] [(.ref a1), (.int (1 : Int32))])) rfl (by rw [hml]; rfl) (Steps.refl _) (argsL := []) (rest := [(.int (1 : Int32))]) (lenOf pd_3 rfl) rfl (by show 2 * 0 + _ ≤ _; exact Nat.le_of_eq rfl) (hb hby d11_4) (fun _ _ => ⟨rfl, e3, (by decide : 0 + 0 ≤ _), (by decide : 0 + 0 ≤ _)⟩)
  dsimp only [Pt.U, Pt.locs, Pt.cells, Pt.slots] at X6 l6 y6 z6 st6 hQ6
  subst l6 y6 z6
  obtain ⟨hv6, rfl, e6⟩ := hQ6
  obtain rfl := own_lenv (cs := ([c0, c1, c2] : List Int32)) (z := (3 : Int32)) rfl hv6
  have N6 := Fr.app N3 (Fr.nil n0)
  have h7 : (1 : Int32) < (3 : Int32) := by decide
  obtain ⟨cq8, kq8, q8a, q8b, q8c⟩ := isOf hZ e6 (own_Str.exa T_a1)
  obtain ⟨_, _, ⟨T8, L8, k8, n8⟩, -, X8, ⟨Lc8, hQ8, l8, y8, z8⟩, st8⟩ := X6.virtualBack hx (y := (⟨"java/lang/String", "codePointAt", "(I)I"⟩ : MethodName)) (z := (⟨"java/lang/String", "codePointAt", "(I)I"⟩ : MethodName)) hown (mvT hZ (hw _ (List.mem_of_getElem? (i := 66) rfl))) (mvT hZ (hw _ (List.mem_of_getElem? (i := 67) rfl))) (notFace_of_selects (args := #[]) (mvT hZ (hw _ (List.mem_of_getElem? (i := 69) rfl)))) (mvT hZ (hw _ (List.mem_of_getElem? (i := 69) rfl))) (mvT hZ (hw _ (List.mem_of_getElem? (i := 68) rfl))) (by decide) (backOf (W := 0) (rmcp31 l Z a0 hw [] a1 c0 c1 c2 cz sf h0 n0 Z0 OLD T_a1 hCS hcz hSF hsf) hZ (hw _ (List.mem_of_getElem? (i := 70) rfl)) (hw _ (List.mem_of_getElem? (i := 12) rfl)) (by decide) (by decide)) q8a q8c (g := (mkF m 12 #[.val (.ref a1), .val (.int (255 : Int32)), .val (.ref a3), .val (.int (1 : Int32)), .val (.int (fcp30 c0 c1 c2 cz))] [(.int (1 : Int32)), (.ref a1)])) rfl (by rw [hml]; rfl) (Steps.refl _) (argsL := [(.int (1 : Int32))]) (rest := []) (lenOf pd_4 rfl) rfl (by show 2 * 0 + _ ≤ _; exact Nat.le_of_eq rfl) (hb hby d11_12) (fun _ _ => ⟨rfl, e6, (by decide : 0 + 0 ≤ _), (by decide : 0 + 0 ≤ _)⟩)
  dsimp only [Pt.U, Pt.locs, Pt.cells, Pt.slots] at X8 l8 y8 z8 st8 hQ8
  subst l8 y8 z8
  obtain ⟨rfl, N8q, e8⟩ := hQ8
  have N8 := Fr.app N6 N8q
  have h9 : ¬ ((fcp31 c0 c1 c2 cz) < (32 : Int32)) := (by show ¬ (c1.toInt8.toInt32 &&& (255 : Int32)) < (32 : Int32); exact (own_cpA pr1).1)
  have h10 : ¬ ((126 : Int32) < (fcp31 c0 c1 c2 cz)) := (by show ¬ (126 : Int32) < (c1.toInt8.toInt32 &&& (255 : Int32)); exact (own_cpA pr1).2)
  obtain ⟨ta11, ka11, na11, va11, xa11, fa11, ga11, ra11, da11, ba11, la11⟩ := id T_a1
  obtain ⟨cq11, kq11, q11a, q11b, q11c⟩ := isOf hZ e8 xa11
  obtain ⟨_, _, ⟨T11, L11, k11, n11⟩, -, X11, ⟨Lc11, hQ11, l11, y11, z11⟩, st11⟩ := X8.virtualBack hx (y := (⟨"java/lang/String", "length", "()I"⟩ : MethodName)) (z := (⟨"java/lang/String", "length", "()I"⟩ : MethodName)) hown (mvT hZ (hw _ (List.mem_of_getElem? (i := 56) rfl))) (mvT hZ (hw _ (List.mem_of_getElem? (i := 57) rfl))) (notFace_of_selects (args := #[]) (mvT hZ (hw _ (List.mem_of_getElem? (i := 59) rfl)))) (mvT hZ (hw _ (List.mem_of_getElem? (i := 59) rfl))) (mvT hZ (hw _ (List.mem_of_getElem? (i := 58) rfl))) (by decide) (StrChars.Road.lenW (W := 1) hZ (own_wLen hw) (kI := 4) (hw _ (List.mem_of_getElem? (i := 11) rfl)) xa11 fa11 ga11 ra11 da11 ba11 (Sta.ext OLD.2 hCS) hcz la11 (by decide) (by decide)) q11a q11c (g := (mkF m 4 #[.val (.ref a1), .val (.int (255 : Int32)), .val (.ref a3), .val (.int (2 : Int32)), .val (.int (fcp31 c0 c1 c2 cz))] [(.ref a1), (.int (2 : Int32))])) rfl (by rw [hml]; rfl) (Steps.refl _) (argsL := []) (rest := [(.int (2 : Int32))]) (lenOf pd_3 rfl) rfl (by show 2 * 0 + _ ≤ _; exact Nat.le_of_eq rfl) (hb hby d11_4) (fun _ _ => ⟨rfl, e8, (by decide : 0 + 0 ≤ _), (by decide : 0 + 0 ≤ _)⟩)
  dsimp only [Pt.U, Pt.locs, Pt.cells, Pt.slots] at X11 l11 y11 z11 st11 hQ11
  subst l11 y11 z11
  obtain ⟨hv11, rfl, e11⟩ := hQ11
  obtain rfl := own_lenv (cs := ([c0, c1, c2] : List Int32)) (z := (3 : Int32)) rfl hv11
  have N11 := Fr.app N8 (Fr.nil n0)
  have h12 : (2 : Int32) < (3 : Int32) := by decide
  obtain ⟨cq13, kq13, q13a, q13b, q13c⟩ := isOf hZ e11 (own_Str.exa T_a1)
  obtain ⟨_, _, ⟨T13, L13, k13, n13⟩, -, X13, ⟨Lc13, hQ13, l13, y13, z13⟩, st13⟩ := X11.virtualBack hx (y := (⟨"java/lang/String", "codePointAt", "(I)I"⟩ : MethodName)) (z := (⟨"java/lang/String", "codePointAt", "(I)I"⟩ : MethodName)) hown (mvT hZ (hw _ (List.mem_of_getElem? (i := 66) rfl))) (mvT hZ (hw _ (List.mem_of_getElem? (i := 67) rfl))) (notFace_of_selects (args := #[]) (mvT hZ (hw _ (List.mem_of_getElem? (i := 69) rfl)))) (mvT hZ (hw _ (List.mem_of_getElem? (i := 69) rfl))) (mvT hZ (hw _ (List.mem_of_getElem? (i := 68) rfl))) (by decide) (backOf (W := 0) (rmcp32 l Z a0 hw [] a1 c0 c1 c2 cz sf h0 n0 Z0 OLD T_a1 hCS hcz hSF hsf) hZ (hw _ (List.mem_of_getElem? (i := 70) rfl)) (hw _ (List.mem_of_getElem? (i := 12) rfl)) (by decide) (by decide)) q13a q13c (g := (mkF m 12 #[.val (.ref a1), .val (.int (255 : Int32)), .val (.ref a3), .val (.int (2 : Int32)), .val (.int (fcp31 c0 c1 c2 cz))] [(.int (2 : Int32)), (.ref a1)])) rfl (by rw [hml]; rfl) (Steps.refl _) (argsL := [(.int (2 : Int32))]) (rest := []) (lenOf pd_4 rfl) rfl (by show 2 * 0 + _ ≤ _; exact Nat.le_of_eq rfl) (hb hby d11_12) (fun _ _ => ⟨rfl, e11, (by decide : 0 + 0 ≤ _), (by decide : 0 + 0 ≤ _)⟩)
  dsimp only [Pt.U, Pt.locs, Pt.cells, Pt.slots] at X13 l13 y13 z13 st13 hQ13
  subst l13 y13 z13
  obtain ⟨rfl, N13q, e13⟩ := hQ13
  have N13 := Fr.app N11 N13q
  have h14 : ¬ ((fcp32 c0 c1 c2 cz) < (32 : Int32)) := (by show ¬ (c2.toInt8.toInt32 &&& (255 : Int32)) < (32 : Int32); exact (own_cpA pr2).1)
  have h15 : ¬ ((126 : Int32) < (fcp32 c0 c1 c2 cz)) := (by show ¬ (126 : Int32) < (c2.toInt8.toInt32 &&& (255 : Int32)); exact (own_cpA pr2).2)
  obtain ⟨ta16, ka16, na16, va16, xa16, fa16, ga16, ra16, da16, ba16, la16⟩ := id T_a1
  obtain ⟨cq16, kq16, q16a, q16b, q16c⟩ := isOf hZ e13 xa16
  obtain ⟨_, _, ⟨T16, L16, k16, n16⟩, -, X16, ⟨Lc16, hQ16, l16, y16, z16⟩, st16⟩ := X13.virtualBack hx (y := (⟨"java/lang/String", "length", "()I"⟩ : MethodName)) (z := (⟨"java/lang/String", "length", "()I"⟩ : MethodName)) hown (mvT hZ (hw _ (List.mem_of_getElem? (i := 56) rfl))) (mvT hZ (hw _ (List.mem_of_getElem? (i := 57) rfl))) (notFace_of_selects (args := #[]) (mvT hZ (hw _ (List.mem_of_getElem? (i := 59) rfl)))) (mvT hZ (hw _ (List.mem_of_getElem? (i := 59) rfl))) (mvT hZ (hw _ (List.mem_of_getElem? (i := 58) rfl))) (by decide) (StrChars.Road.lenW (W := 1) hZ (own_wLen hw) (kI := 4) (hw _ (List.mem_of_getElem? (i := 11) rfl)) xa16 fa16 ga16 ra16 da16 ba16 (Sta.ext OLD.2 hCS) hcz la16 (by decide) (by decide)) q16a q16c (g := (mkF m 4 #[.val (.ref a1), .val (.int (255 : Int32)), .val (.ref a3), .val (.int (3 : Int32)), .val (.int (fcp32 c0 c1 c2 cz))] [(.ref a1), (.int (3 : Int32))])) rfl (by rw [hml]; rfl) (Steps.refl _) (argsL := []) (rest := [(.int (3 : Int32))]) (lenOf pd_3 rfl) rfl (by show 2 * 0 + _ ≤ _; exact Nat.le_of_eq rfl) (hb hby d11_4) (fun _ _ => ⟨rfl, e13, (by decide : 0 + 0 ≤ _), (by decide : 0 + 0 ≤ _)⟩)
  dsimp only [Pt.U, Pt.locs, Pt.cells, Pt.slots] at X16 l16 y16 z16 st16 hQ16
  subst l16 y16 z16
  obtain ⟨hv16, rfl, e16⟩ := hQ16
  obtain rfl := own_lenv (cs := ([c0, c1, c2] : List Int32)) (z := (3 : Int32)) rfl hv16
  have N16 := Fr.app N13 (Fr.nil n0)
  have h17 : ¬ ((3 : Int32) < (3 : Int32)) := by decide
  obtain ⟨ta18, ka18, na18, va18, xa18, fa18, ga18, ra18, da18, ba18, la18⟩ := id T_a1
  obtain ⟨cq18, kq18, q18a, q18b, q18c⟩ := isOf hZ e16 xa18
  obtain ⟨_, _, ⟨T18, L18, k18, n18⟩, -, X18, ⟨Lc18, hQ18, l18, y18, z18⟩, st18⟩ := X16.virtualBack hx (y := (⟨"java/lang/String", "isEmpty", "()Z"⟩ : MethodName)) (z := (⟨"java/lang/String", "isEmpty", "()Z"⟩ : MethodName)) hown (mvT hZ (hw _ (List.mem_of_getElem? (i := 84) rfl))) (mvT hZ (hw _ (List.mem_of_getElem? (i := 85) rfl))) (notFace_of_selects (args := #[]) (mvT hZ (hw _ (List.mem_of_getElem? (i := 87) rfl)))) (mvT hZ (hw _ (List.mem_of_getElem? (i := 87) rfl))) (mvT hZ (hw _ (List.mem_of_getElem? (i := 86) rfl))) (by decide) (StrChars.Road.empW (W := 0) hZ (own_wEmp hw) (kI := 4) (hw _ (List.mem_of_getElem? (i := 11) rfl)) xa18 fa18 ga18 ra18 da18 ba18 la18 (by decide) (by decide)) q18a q18c (g := (mkF m 74 #[.val (.ref a1), .val (.int (255 : Int32)), .val (.ref a3), .val (.int (3 : Int32)), .val (.int (fcp32 c0 c1 c2 cz))] [(.ref a1)])) rfl (by rw [hml]; rfl) (Steps.refl _) (argsL := []) (rest := []) (lenOf pd_1 rfl) rfl (by show 2 * 0 + _ ≤ _; exact Nat.le_of_eq rfl) (hb hby d11_74) (fun _ _ => ⟨rfl, e16, (by decide : 0 + 0 ≤ _), (by decide : 0 + 0 ≤ _)⟩)
  dsimp only [Pt.U, Pt.locs, Pt.cells, Pt.slots] at X18 l18 y18 z18 st18 hQ18
  subst l18 y18 z18
  obtain ⟨hv18, rfl, e18⟩ := hQ18
  obtain rfl := own_empv (cs := ([c0, c1, c2] : List Int32)) (by show ¬ 3 = 0; decide) hv18
  have N18 := Fr.app N16 (Fr.nil n0)
  have h19 : (0 : Int32) = (0 : Int32) := by decide
  obtain ⟨ta20, ka20, na20, va20, xa20, fa20, ga20, ra20, da20, ba20, la20⟩ := id T_a1
  obtain ⟨cq20, kq20, q20a, q20b, q20c⟩ := isOf hZ e18 xa20
  obtain ⟨_, _, ⟨T20, L20, k20, n20⟩, -, X20, ⟨Lc20, hQ20, l20, y20, z20⟩, st20⟩ := X18.virtualBack hx (y := (⟨"java/lang/String", "length", "()I"⟩ : MethodName)) (z := (⟨"java/lang/String", "length", "()I"⟩ : MethodName)) hown (mvT hZ (hw _ (List.mem_of_getElem? (i := 56) rfl))) (mvT hZ (hw _ (List.mem_of_getElem? (i := 57) rfl))) (notFace_of_selects (args := #[]) (mvT hZ (hw _ (List.mem_of_getElem? (i := 59) rfl)))) (mvT hZ (hw _ (List.mem_of_getElem? (i := 59) rfl))) (mvT hZ (hw _ (List.mem_of_getElem? (i := 58) rfl))) (by decide) (StrChars.Road.lenW (W := 0) hZ (own_wLen hw) (kI := 4) (hw _ (List.mem_of_getElem? (i := 11) rfl)) xa20 fa20 ga20 ra20 da20 ba20 (Sta.ext OLD.2 hCS) hcz la20 (by decide) (by decide)) q20a q20c (g := (mkF m 81 #[.val (.ref a1), .val (.int (255 : Int32)), .val (.ref a3), .val (.int (3 : Int32)), .val (.int (fcp32 c0 c1 c2 cz))] [(.ref a1)])) rfl (by rw [hml]; rfl) (Steps.refl _) (argsL := []) (rest := []) (lenOf pd_3 rfl) rfl (by show 2 * 0 + _ ≤ _; exact Nat.le_of_eq rfl) (hb hby d11_81) (fun _ _ => ⟨rfl, e18, (by decide : 0 + 0 ≤ _), (by decide : 0 + 0 ≤ _)⟩)
  dsimp only [Pt.U, Pt.locs, Pt.cells, Pt.slots] at X20 l20 y20 z20 st20 hQ20
  subst l20 y20 z20
  obtain ⟨hv20, rfl, e20⟩ := hQ20
  obtain rfl := own_lenv (cs := ([c0, c1, c2] : List Int32)) (z := (3 : Int32)) rfl hv20
  have N20 := Fr.app N18 (Fr.nil n0)
  have h21 : ¬ ((255 : Int32) < (3 : Int32)) := by decide
  obtain ⟨fs, hr, hrun, hended, hW, hsame⟩ := X20.leave (v := some (.ref a1)) (fun h => by rw [Bd.returns] at h; cases h)
  refine ⟨_, _, ?_, hrun, hended, _, _, rfl, ?_, ⟨_, rfl⟩, hW, hsame.mono (by decide) (by decide)⟩
  · show Steps p.tables e below (s₁.setTop (mkF m 0 #[.val (.ref a1), .val (.int (255 : Int32)), .val (.ref a3), .unset, .unset] [])) _
    refine XS.iconst X0.here hx rfl (hb hby d11_0) ?_
    show Steps p.tables e below (s₁.setTop (mkF m 1 #[.val (.ref a1), .val (.int (255 : Int32)), .val (.ref a3), .unset, .unset] [(.int (0 : Int32))])) _
    refine XS.istoreN X0.here hx rfl (hb hby d11_1) rfl (l' := #[.val (.ref a1), .val (.int (255 : Int32)), .val (.ref a3), .val (.int (0 : Int32)), .unset]) rfl ?_
    show Steps p.tables e below (s₁.setTop (mkF m 2 #[.val (.ref a1), .val (.int (255 : Int32)), .val (.ref a3), .val (.int (0 : Int32)), .unset] [])) _
    refine XS.iloadN X0.here hx rfl (hb hby d11_2) rfl ?_
    show Steps p.tables e below (s₁.setTop (mkF m 3 #[.val (.ref a1), .val (.int (255 : Int32)), .val (.ref a3), .val (.int (0 : Int32)), .unset] [(.int (0 : Int32))])) _
    refine XS.aloadN X0.here hx rfl (hb hby d11_3) rfl rfl ?_
    show Steps p.tables e below (s₁.setTop (mkF m 4 #[.val (.ref a1), .val (.int (255 : Int32)), .val (.ref a3), .val (.int (0 : Int32)), .unset] [(.ref a1), (.int (0 : Int32))])) _
    refine st1.trans ?_
    show Steps p.tables e below (T1.setTop (mkF m 7 #[.val (.ref a1), .val (.int (255 : Int32)), .val (.ref a3), .val (.int (0 : Int32)), .unset] [(.int (3 : Int32)), (.int (0 : Int32))])) _
    refine XS.icmpNo X1.here hx rfl (hb hby d11_7) rfl (tlt h2).2.1 ?_
    show Steps p.tables e below (T1.setTop (mkF m 10 #[.val (.ref a1), .val (.int (255 : Int32)), .val (.ref a3), .val (.int (0 : Int32)), .unset] [])) _
    refine XS.aloadN X1.here hx rfl (hb hby d11_10) rfl rfl ?_
    show Steps p.tables e below (T1.setTop (mkF m 11 #[.val (.ref a1), .val (.int (255 : Int32)), .val (.ref a3), .val (.int (0 : Int32)), .unset] [(.ref a1)])) _
    refine XS.iloadN X1.here hx rfl (hb hby d11_11) rfl ?_
    show Steps p.tables e below (T1.setTop (mkF m 12 #[.val (.ref a1), .val (.int (255 : Int32)), .val (.ref a3), .val (.int (0 : Int32)), .unset] [(.int (0 : Int32)), (.ref a1)])) _
    refine st3.trans ?_
    show Steps p.tables e below (T3.setTop (mkF m 15 #[.val (.ref a1), .val (.int (255 : Int32)), .val (.ref a3), .val (.int (0 : Int32)), .unset] [(.int (fcp30 c0 c1 c2 cz))])) _
    refine XS.istore X3.here hx rfl (hb hby d11_15) rfl (l' := #[.val (.ref a1), .val (.int (255 : Int32)), .val (.ref a3), .val (.int (0 : Int32)), .val (.int (fcp30 c0 c1 c2 cz))]) rfl ?_
    show Steps p.tables e below (T3.setTop (mkF m 17 #[.val (.ref a1), .val (.int (255 : Int32)), .val (.ref a3), .val (.int (0 : Int32)), .val (.int (fcp30 c0 c1 c2 cz))] [])) _
    refine XS.iload X3.here hx rfl (hb hby d11_17) rfl ?_
    show Steps p.tables e below (T3.setTop (mkF m 19 #[.val (.ref a1), .val (.int (255 : Int32)), .val (.ref a3), .val (.int (0 : Int32)), .val (.int (fcp30 c0 c1 c2 cz))] [(.int (fcp30 c0 c1 c2 cz))])) _
    refine XS.bipush X3.here hx rfl (hb hby d11_19) ?_
    show Steps p.tables e below (T3.setTop (mkF m 21 #[.val (.ref a1), .val (.int (255 : Int32)), .val (.ref a3), .val (.int (0 : Int32)), .val (.int (fcp30 c0 c1 c2 cz))] [(.int (32 : Int32)), (.int (fcp30 c0 c1 c2 cz))])) _
    refine XS.icmpNo X3.here hx rfl (hb hby d11_21) rfl (flt h4).1 ?_
    show Steps p.tables e below (T3.setTop (mkF m 24 #[.val (.ref a1), .val (.int (255 : Int32)), .val (.ref a3), .val (.int (0 : Int32)), .val (.int (fcp30 c0 c1 c2 cz))] [])) _
    refine XS.iload X3.here hx rfl (hb hby d11_24) rfl ?_
    show Steps p.tables e below (T3.setTop (mkF m 26 #[.val (.ref a1), .val (.int (255 : Int32)), .val (.ref a3), .val (.int (0 : Int32)), .val (.int (fcp30 c0 c1 c2 cz))] [(.int (fcp30 c0 c1 c2 cz))])) _
    refine XS.bipush X3.here hx rfl (hb hby d11_26) ?_
    show Steps p.tables e below (T3.setTop (mkF m 28 #[.val (.ref a1), .val (.int (255 : Int32)), .val (.ref a3), .val (.int (0 : Int32)), .val (.int (fcp30 c0 c1 c2 cz))] [(.int (126 : Int32)), (.int (fcp30 c0 c1 c2 cz))])) _
    refine XS.icmpYes X3.here hx rfl (pc0 := 28) (pc' := 67) rfl (hb hby d11_28) rfl (flt h5).2.2.2 (by decide) (by decide) ?_
    show Steps p.tables e below (T3.setTop (mkF m 67 #[.val (.ref a1), .val (.int (255 : Int32)), .val (.ref a3), .val (.int (0 : Int32)), .val (.int (fcp30 c0 c1 c2 cz))] [])) _
    refine XS.iinc X3.here hx rfl (hb hby d11_67) rfl (l' := #[.val (.ref a1), .val (.int (255 : Int32)), .val (.ref a3), .val (.int (1 : Int32)), .val (.int (fcp30 c0 c1 c2 cz))]) rfl ?_
    show Steps p.tables e below (T3.setTop (mkF m 70 #[.val (.ref a1), .val (.int (255 : Int32)), .val (.ref a3), .val (.int (1 : Int32)), .val (.int (fcp30 c0 c1 c2 cz))] [])) _
    refine XS.goto X3.here hx rfl (pc0 := 70) (pc' := 2) rfl (hb hby d11_70) (by decide) (by decide) ?_
    show Steps p.tables e below (T3.setTop (mkF m 2 #[.val (.ref a1), .val (.int (255 : Int32)), .val (.ref a3), .val (.int (1 : Int32)), .val (.int (fcp30 c0 c1 c2 cz))] [])) _
    refine XS.iloadN X3.here hx rfl (hb hby d11_2) rfl ?_
    show Steps p.tables e below (T3.setTop (mkF m 3 #[.val (.ref a1), .val (.int (255 : Int32)), .val (.ref a3), .val (.int (1 : Int32)), .val (.int (fcp30 c0 c1 c2 cz))] [(.int (1 : Int32))])) _
    refine XS.aloadN X3.here hx rfl (hb hby d11_3) rfl rfl ?_
    show Steps p.tables e below (T3.setTop (mkF m 4 #[.val (.ref a1), .val (.int (255 : Int32)), .val (.ref a3), .val (.int (1 : Int32)), .val (.int (fcp30 c0 c1 c2 cz))] [(.ref a1), (.int (1 : Int32))])) _
    refine st6.trans ?_
    show Steps p.tables e below (T6.setTop (mkF m 7 #[.val (.ref a1), .val (.int (255 : Int32)), .val (.ref a3), .val (.int (1 : Int32)), .val (.int (fcp30 c0 c1 c2 cz))] [(.int (3 : Int32)), (.int (1 : Int32))])) _
    refine XS.icmpNo X6.here hx rfl (hb hby d11_7) rfl (tlt h7).2.1 ?_
    show Steps p.tables e below (T6.setTop (mkF m 10 #[.val (.ref a1), .val (.int (255 : Int32)), .val (.ref a3), .val (.int (1 : Int32)), .val (.int (fcp30 c0 c1 c2 cz))] [])) _
    refine XS.aloadN X6.here hx rfl (hb hby d11_10) rfl rfl ?_
    show Steps p.tables e below (T6.setTop (mkF m 11 #[.val (.ref a1), .val (.int (255 : Int32)), .val (.ref a3), .val (.int (1 : Int32)), .val (.int (fcp30 c0 c1 c2 cz))] [(.ref a1)])) _
    refine XS.iloadN X6.here hx rfl (hb hby d11_11) rfl ?_
    show Steps p.tables e below (T6.setTop (mkF m 12 #[.val (.ref a1), .val (.int (255 : Int32)), .val (.ref a3), .val (.int (1 : Int32)), .val (.int (fcp30 c0 c1 c2 cz))] [(.int (1 : Int32)), (.ref a1)])) _
    refine st8.trans ?_
    show Steps p.tables e below (T8.setTop (mkF m 15 #[.val (.ref a1), .val (.int (255 : Int32)), .val (.ref a3), .val (.int (1 : Int32)), .val (.int (fcp30 c0 c1 c2 cz))] [(.int (fcp31 c0 c1 c2 cz))])) _
    refine XS.istore X8.here hx rfl (hb hby d11_15) rfl (l' := #[.val (.ref a1), .val (.int (255 : Int32)), .val (.ref a3), .val (.int (1 : Int32)), .val (.int (fcp31 c0 c1 c2 cz))]) rfl ?_
    show Steps p.tables e below (T8.setTop (mkF m 17 #[.val (.ref a1), .val (.int (255 : Int32)), .val (.ref a3), .val (.int (1 : Int32)), .val (.int (fcp31 c0 c1 c2 cz))] [])) _
    refine XS.iload X8.here hx rfl (hb hby d11_17) rfl ?_
    show Steps p.tables e below (T8.setTop (mkF m 19 #[.val (.ref a1), .val (.int (255 : Int32)), .val (.ref a3), .val (.int (1 : Int32)), .val (.int (fcp31 c0 c1 c2 cz))] [(.int (fcp31 c0 c1 c2 cz))])) _
    refine XS.bipush X8.here hx rfl (hb hby d11_19) ?_
    show Steps p.tables e below (T8.setTop (mkF m 21 #[.val (.ref a1), .val (.int (255 : Int32)), .val (.ref a3), .val (.int (1 : Int32)), .val (.int (fcp31 c0 c1 c2 cz))] [(.int (32 : Int32)), (.int (fcp31 c0 c1 c2 cz))])) _
    refine XS.icmpNo X8.here hx rfl (hb hby d11_21) rfl (flt h9).1 ?_
    show Steps p.tables e below (T8.setTop (mkF m 24 #[.val (.ref a1), .val (.int (255 : Int32)), .val (.ref a3), .val (.int (1 : Int32)), .val (.int (fcp31 c0 c1 c2 cz))] [])) _
    refine XS.iload X8.here hx rfl (hb hby d11_24) rfl ?_
    show Steps p.tables e below (T8.setTop (mkF m 26 #[.val (.ref a1), .val (.int (255 : Int32)), .val (.ref a3), .val (.int (1 : Int32)), .val (.int (fcp31 c0 c1 c2 cz))] [(.int (fcp31 c0 c1 c2 cz))])) _
    refine XS.bipush X8.here hx rfl (hb hby d11_26) ?_
    show Steps p.tables e below (T8.setTop (mkF m 28 #[.val (.ref a1), .val (.int (255 : Int32)), .val (.ref a3), .val (.int (1 : Int32)), .val (.int (fcp31 c0 c1 c2 cz))] [(.int (126 : Int32)), (.int (fcp31 c0 c1 c2 cz))])) _
    refine XS.icmpYes X8.here hx rfl (pc0 := 28) (pc' := 67) rfl (hb hby d11_28) rfl (flt h10).2.2.2 (by decide) (by decide) ?_
    show Steps p.tables e below (T8.setTop (mkF m 67 #[.val (.ref a1), .val (.int (255 : Int32)), .val (.ref a3), .val (.int (1 : Int32)), .val (.int (fcp31 c0 c1 c2 cz))] [])) _
    refine XS.iinc X8.here hx rfl (hb hby d11_67) rfl (l' := #[.val (.ref a1), .val (.int (255 : Int32)), .val (.ref a3), .val (.int (2 : Int32)), .val (.int (fcp31 c0 c1 c2 cz))]) rfl ?_
    show Steps p.tables e below (T8.setTop (mkF m 70 #[.val (.ref a1), .val (.int (255 : Int32)), .val (.ref a3), .val (.int (2 : Int32)), .val (.int (fcp31 c0 c1 c2 cz))] [])) _
    refine XS.goto X8.here hx rfl (pc0 := 70) (pc' := 2) rfl (hb hby d11_70) (by decide) (by decide) ?_
    show Steps p.tables e below (T8.setTop (mkF m 2 #[.val (.ref a1), .val (.int (255 : Int32)), .val (.ref a3), .val (.int (2 : Int32)), .val (.int (fcp31 c0 c1 c2 cz))] [])) _
    refine XS.iloadN X8.here hx rfl (hb hby d11_2) rfl ?_
    show Steps p.tables e below (T8.setTop (mkF m 3 #[.val (.ref a1), .val (.int (255 : Int32)), .val (.ref a3), .val (.int (2 : Int32)), .val (.int (fcp31 c0 c1 c2 cz))] [(.int (2 : Int32))])) _
    refine XS.aloadN X8.here hx rfl (hb hby d11_3) rfl rfl ?_
    show Steps p.tables e below (T8.setTop (mkF m 4 #[.val (.ref a1), .val (.int (255 : Int32)), .val (.ref a3), .val (.int (2 : Int32)), .val (.int (fcp31 c0 c1 c2 cz))] [(.ref a1), (.int (2 : Int32))])) _
    refine st11.trans ?_
    show Steps p.tables e below (T11.setTop (mkF m 7 #[.val (.ref a1), .val (.int (255 : Int32)), .val (.ref a3), .val (.int (2 : Int32)), .val (.int (fcp31 c0 c1 c2 cz))] [(.int (3 : Int32)), (.int (2 : Int32))])) _
    refine XS.icmpNo X11.here hx rfl (hb hby d11_7) rfl (tlt h12).2.1 ?_
    show Steps p.tables e below (T11.setTop (mkF m 10 #[.val (.ref a1), .val (.int (255 : Int32)), .val (.ref a3), .val (.int (2 : Int32)), .val (.int (fcp31 c0 c1 c2 cz))] [])) _
    refine XS.aloadN X11.here hx rfl (hb hby d11_10) rfl rfl ?_
    show Steps p.tables e below (T11.setTop (mkF m 11 #[.val (.ref a1), .val (.int (255 : Int32)), .val (.ref a3), .val (.int (2 : Int32)), .val (.int (fcp31 c0 c1 c2 cz))] [(.ref a1)])) _
    refine XS.iloadN X11.here hx rfl (hb hby d11_11) rfl ?_
    show Steps p.tables e below (T11.setTop (mkF m 12 #[.val (.ref a1), .val (.int (255 : Int32)), .val (.ref a3), .val (.int (2 : Int32)), .val (.int (fcp31 c0 c1 c2 cz))] [(.int (2 : Int32)), (.ref a1)])) _
    refine st13.trans ?_
    show Steps p.tables e below (T13.setTop (mkF m 15 #[.val (.ref a1), .val (.int (255 : Int32)), .val (.ref a3), .val (.int (2 : Int32)), .val (.int (fcp31 c0 c1 c2 cz))] [(.int (fcp32 c0 c1 c2 cz))])) _
    refine XS.istore X13.here hx rfl (hb hby d11_15) rfl (l' := #[.val (.ref a1), .val (.int (255 : Int32)), .val (.ref a3), .val (.int (2 : Int32)), .val (.int (fcp32 c0 c1 c2 cz))]) rfl ?_
    show Steps p.tables e below (T13.setTop (mkF m 17 #[.val (.ref a1), .val (.int (255 : Int32)), .val (.ref a3), .val (.int (2 : Int32)), .val (.int (fcp32 c0 c1 c2 cz))] [])) _
    refine XS.iload X13.here hx rfl (hb hby d11_17) rfl ?_
    show Steps p.tables e below (T13.setTop (mkF m 19 #[.val (.ref a1), .val (.int (255 : Int32)), .val (.ref a3), .val (.int (2 : Int32)), .val (.int (fcp32 c0 c1 c2 cz))] [(.int (fcp32 c0 c1 c2 cz))])) _
    refine XS.bipush X13.here hx rfl (hb hby d11_19) ?_
    show Steps p.tables e below (T13.setTop (mkF m 21 #[.val (.ref a1), .val (.int (255 : Int32)), .val (.ref a3), .val (.int (2 : Int32)), .val (.int (fcp32 c0 c1 c2 cz))] [(.int (32 : Int32)), (.int (fcp32 c0 c1 c2 cz))])) _
    refine XS.icmpNo X13.here hx rfl (hb hby d11_21) rfl (flt h14).1 ?_
    show Steps p.tables e below (T13.setTop (mkF m 24 #[.val (.ref a1), .val (.int (255 : Int32)), .val (.ref a3), .val (.int (2 : Int32)), .val (.int (fcp32 c0 c1 c2 cz))] [])) _
    refine XS.iload X13.here hx rfl (hb hby d11_24) rfl ?_
    show Steps p.tables e below (T13.setTop (mkF m 26 #[.val (.ref a1), .val (.int (255 : Int32)), .val (.ref a3), .val (.int (2 : Int32)), .val (.int (fcp32 c0 c1 c2 cz))] [(.int (fcp32 c0 c1 c2 cz))])) _
    refine XS.bipush X13.here hx rfl (hb hby d11_26) ?_
    show Steps p.tables e below (T13.setTop (mkF m 28 #[.val (.ref a1), .val (.int (255 : Int32)), .val (.ref a3), .val (.int (2 : Int32)), .val (.int (fcp32 c0 c1 c2 cz))] [(.int (126 : Int32)), (.int (fcp32 c0 c1 c2 cz))])) _
    refine XS.icmpYes X13.here hx rfl (pc0 := 28) (pc' := 67) rfl (hb hby d11_28) rfl (flt h15).2.2.2 (by decide) (by decide) ?_
    show Steps p.tables e below (T13.setTop (mkF m 67 #[.val (.ref a1), .val (.int (255 : Int32)), .val (.ref a3), .val (.int (2 : Int32)), .val (.int (fcp32 c0 c1 c2 cz))] [])) _
    refine XS.iinc X13.here hx rfl (hb hby d11_67) rfl (l' := #[.val (.ref a1), .val (.int (255 : Int32)), .val (.ref a3), .val (.int (3 : Int32)), .val (.int (fcp32 c0 c1 c2 cz))]) rfl ?_
    show Steps p.tables e below (T13.setTop (mkF m 70 #[.val (.ref a1), .val (.int (255 : Int32)), .val (.ref a3), .val (.int (3 : Int32)), .val (.int (fcp32 c0 c1 c2 cz))] [])) _
    refine XS.goto X13.here hx rfl (pc0 := 70) (pc' := 2) rfl (hb hby d11_70) (by decide) (by decide) ?_
    show Steps p.tables e below (T13.setTop (mkF m 2 #[.val (.ref a1), .val (.int (255 : Int32)), .val (.ref a3), .val (.int (3 : Int32)), .val (.int (fcp32 c0 c1 c2 cz))] [])) _
    refine XS.iloadN X13.here hx rfl (hb hby d11_2) rfl ?_
    show Steps p.tables e below (T13.setTop (mkF m 3 #[.val (.ref a1), .val (.int (255 : Int32)), .val (.ref a3), .val (.int (3 : Int32)), .val (.int (fcp32 c0 c1 c2 cz))] [(.int (3 : Int32))])) _
    refine XS.aloadN X13.here hx rfl (hb hby d11_3) rfl rfl ?_
    show Steps p.tables e below (T13.setTop (mkF m 4 #[.val (.ref a1), .val (.int (255 : Int32)), .val (.ref a3), .val (.int (3 : Int32)), .val (.int (fcp32 c0 c1 c2 cz))] [(.ref a1), (.int (3 : Int32))])) _
    refine st16.trans ?_
    show Steps p.tables e below (T16.setTop (mkF m 7 #[.val (.ref a1), .val (.int (255 : Int32)), .val (.ref a3), .val (.int (3 : Int32)), .val (.int (fcp32 c0 c1 c2 cz))] [(.int (3 : Int32)), (.int (3 : Int32))])) _
    refine XS.icmpYes X16.here hx rfl (pc0 := 7) (pc' := 73) rfl (hb hby d11_7) rfl (flt h17).2.1 (by decide) (by decide) ?_
    show Steps p.tables e below (T16.setTop (mkF m 73 #[.val (.ref a1), .val (.int (255 : Int32)), .val (.ref a3), .val (.int (3 : Int32)), .val (.int (fcp32 c0 c1 c2 cz))] [])) _
    refine XS.aloadN X16.here hx rfl (hb hby d11_73) rfl rfl ?_
    show Steps p.tables e below (T16.setTop (mkF m 74 #[.val (.ref a1), .val (.int (255 : Int32)), .val (.ref a3), .val (.int (3 : Int32)), .val (.int (fcp32 c0 c1 c2 cz))] [(.ref a1)])) _
    refine st18.trans ?_
    show Steps p.tables e below (T18.setTop (mkF m 77 #[.val (.ref a1), .val (.int (255 : Int32)), .val (.ref a3), .val (.int (3 : Int32)), .val (.int (fcp32 c0 c1 c2 cz))] [(.int (0 : Int32))])) _
    refine XS.ifNo X18.here hx rfl (hb hby d11_77) rfl ((if0 _ _).trans (teq h19).2) ?_
    show Steps p.tables e below (T18.setTop (mkF m 80 #[.val (.ref a1), .val (.int (255 : Int32)), .val (.ref a3), .val (.int (3 : Int32)), .val (.int (fcp32 c0 c1 c2 cz))] [])) _
    refine XS.aloadN X18.here hx rfl (hb hby d11_80) rfl rfl ?_
    show Steps p.tables e below (T18.setTop (mkF m 81 #[.val (.ref a1), .val (.int (255 : Int32)), .val (.ref a3), .val (.int (3 : Int32)), .val (.int (fcp32 c0 c1 c2 cz))] [(.ref a1)])) _
    refine st20.trans ?_
    show Steps p.tables e below (T20.setTop (mkF m 84 #[.val (.ref a1), .val (.int (255 : Int32)), .val (.ref a3), .val (.int (3 : Int32)), .val (.int (fcp32 c0 c1 c2 cz))] [(.int (3 : Int32))])) _
    refine XS.iloadN X20.here hx rfl (hb hby d11_84) rfl ?_
    show Steps p.tables e below (T20.setTop (mkF m 85 #[.val (.ref a1), .val (.int (255 : Int32)), .val (.ref a3), .val (.int (3 : Int32)), .val (.int (fcp32 c0 c1 c2 cz))] [(.int (255 : Int32)), (.int (3 : Int32))])) _
    refine XS.icmpYes X20.here hx rfl (pc0 := 85) (pc' := 107) rfl (hb hby d11_85) rfl (flt h21).2.2.2 (by decide) (by decide) ?_
    show Steps p.tables e below (T20.setTop (mkF m 107 #[.val (.ref a1), .val (.int (255 : Int32)), .val (.ref a3), .val (.int (3 : Int32)), .val (.int (fcp32 c0 c1 c2 cz))] [])) _
    refine XS.aloadN X20.here hx rfl (hb hby d11_107) rfl rfl ?_
    show Steps p.tables e below (T20.setTop (mkF m 108 #[.val (.ref a1), .val (.int (255 : Int32)), .val (.ref a3), .val (.int (3 : Int32)), .val (.int (fcp32 c0 c1 c2 cz))] [(.ref a1)])) _
    jvm_step X20.here [X20.here.top, hx, (hb hby d11_108), X20.method', Bd.returns, Value.isRef, FieldType.isReference]
    first | (intro acts; rw [hr _ acts rfl rfl rfl]) | rw [hr _ _ rfl rfl rfl]
    exact Steps.refl _
  · show Qrq3 Z a1 a3 c0 c1 c2 cz sf h0 n0 _ T20.heap _
    rw [e20]
    exact ⟨rfl, N20, rfl⟩
def Qrq (Z : State) (a1 : Addr) (a3 : Addr) (cs : List Int32) (cz : Int32) (sf : Value) (h0 : Heap) (n0 : Nat) (v : Option Value) (h : Heap) (L : List Loc) : Prop := v = some (.ref a1) ∧ Fr n0 L ∧ h = h0
theorem rmrq (l : Launch) (Z : State) (a0 : Array Value) (hw : ∀ d ∈ tables_1, d.before a0 Z = true) (ws : List Jvm.Cond) (a1 : Addr) (a3 : Addr) (cs : List Int32) (cz : Int32) (sf : Value) (h0 : Heap) (n0 : Nat) (Z0 : n0 ≤ h0.size) (OLD : Old Z n0 h0) (T_a1 : own_Str Z h0 a1 cs) (hok : own_ok cs) (hCS : Sta Z Z.heap "java/lang/String" "COMPACT_STRINGS" "Z" (.int cz)) (hcz : ¬ cz = 0) (hSF : Sta Z Z.heap "jdk/internal/util/Preconditions" "SIOOBE_FORMATTER" "Ljava/util/function/BiFunction;" sf) (hsf : sf = .null ∨ ∃ g, sf = .ref g) :
    MetFree l (⟨"com/example/hitotabi/hitotabi/PrintableAscii", "require", "(Ljava/lang/String;ILjava/lang/String;)Ljava/lang/String;"⟩ : MethodName) (head1 (Jvm.Cond.code (⟨"com/example/hitotabi/hitotabi/PrintableAscii", "require", "(Ljava/lang/String;ILjava/lang/String;)Ljava/lang/String;"⟩ : MethodName) prog_28_method_2_code 5 (some (.object "java/lang/String")) :: ws) ({ frames := 3, cells := 0, slots := 0, locals := 41 } : Room)) (fun a U => a = #[(.ref a1), (.int (255 : Int32)), (.ref a3)] ∧ Z.Warmed39 U.vm ∧ U.heap = h0) (fun _ _ _ _ _ => True) (fun _ U o U' => ∃ v L, o = .returned v ∧ Qrq Z a1 a3 cs cz sf h0 n0 v U'.heap L ∧ FrameEnd U o U' L ({ frames := 3, cells := 0, slots := 0, locals := 41 } : Room).cells ({ frames := 3, cells := 0, slots := 0, locals := 41 } : Room).slots) := by
  rcases hok with ⟨c0, rfl, pr0⟩ | ⟨c0, c1, rfl, pr0, pr1⟩ | ⟨c0, c1, c2, rfl, pr0, pr1, pr2⟩
  · exact rmrq1 l Z a0 hw ws a1 a3 c0 cz sf h0 n0 Z0 OLD T_a1 pr0 hCS hcz hSF hsf
  · exact rmrq2 l Z a0 hw ws a1 a3 c0 c1 cz sf h0 n0 Z0 OLD T_a1 pr0 pr1 hCS hcz hSF hsf
  · exact rmrq3 l Z a0 hw ws a1 a3 c0 c1 c2 cz sf h0 n0 Z0 OLD T_a1 pr0 pr1 pr2 hCS hcz hSF hsf
theorem d10_0 : decode jdk_31_method_11_code 0 = .ok (.aload_n 0, 1) := by decide +kernel
theorem d10_1 : decode jdk_31_method_11_code 1 = .ok (.ifnonnull 12, 3) := by decide +kernel
theorem d10_13 : decode jdk_31_method_11_code 13 = .ok (.aload_n 0, 1) := by decide +kernel
theorem d10_14 : decode jdk_31_method_11_code 14 = .ok (.areturn, 1) := by decide +kernel
theorem pn_rnn : plainName "java/util/Objects" = true := by first | (simp [plainName, overriddenIn]; done) | decide +kernel
theorem ef_rnn (m : MethodId) (a1 : Addr) (a2 : Addr) : entryFrame m #[(.ref a1), (.ref a2)] 2 = mkF m 0 #[.val (.ref a1), .val (.ref a2)] [] := by first | (simp [entryFrame, mkF, argsToLocals, Value.category]; done) | rfl
def Qrnn (Z : State) (a1 : Addr) (a2 : Addr) (h0 : Heap) (n0 : Nat) (v : Option Value) (h : Heap) (L : List Loc) : Prop := v = some (.ref a1) ∧ Fr n0 L ∧ h = h0
set_option maxRecDepth 65536 in
set_option maxHeartbeats 40000000 in
theorem rmrnn (l : Launch) (Z : State) (a0 : Array Value) (hw : ∀ d ∈ tables_1, d.before a0 Z = true) (ws : List Jvm.Cond) (a1 : Addr) (a2 : Addr) (h0 : Heap) (n0 : Nat) (Z0 : n0 ≤ h0.size) :
    MetFree l (⟨"java/util/Objects", "requireNonNull", "(Ljava/lang/Object;Ljava/lang/String;)Ljava/lang/Object;"⟩ : MethodName) (head1 (Jvm.Cond.code (⟨"java/util/Objects", "requireNonNull", "(Ljava/lang/Object;Ljava/lang/String;)Ljava/lang/Object;"⟩ : MethodName) jdk_31_method_11_code 2 (some (.object "java/lang/Object")) :: ws) ({ frames := 0, cells := 0, slots := 0, locals := 0 } : Room)) (fun a U => a = #[(.ref a1), (.ref a2)] ∧ Z.Warmed39 U.vm ∧ U.heap = h0) (fun _ _ _ _ _ => True) (fun _ U o U' => ∃ v L, o = .returned v ∧ Qrnn Z a1 a2 h0 n0 v U'.heap L ∧ FrameEnd U o U' L ({ frames := 0, cells := 0, slots := 0, locals := 0 } : Room).cells ({ frames := 0, cells := 0, slots := 0, locals := 0 } : Room).slots) := by
  refine MetFree.of_bodySF (plainFor_of_name pn_rnn) hisR ?_
  intro p e s m args below meth c s₁ Bd hml0 hP hK
  obtain ⟨rfl, hZ, hh⟩ := hP
  have hx := Bd.exec
  have hby := Bd.bytes
  have hml : c.maxLocals = 2 := hml0
  have hown : s.vm.findClass "java/util/Objects" = some m.cls := findClass_of_methodNamed Bd.named
  have hnm := (name_of_methodNamed Bd.named Bd.method).1
  have X0 : Stand p l e ({ frames := 0, cells := 0, slots := 0, locals := 0 } : Room) s m #[(.ref a1), (.ref a2)] below meth c s₁ [] 0 0 := Stand.of_body Bd
  have e0 : s₁.heap = h0 := by rw [← hh, Bd.state]; rfl
  have N0 := Fr.nil n0
  have pre0 : ∀ t, Steps p.tables e below (s₁.setTop (mkF m 0 #[.val (.ref a1), .val (.ref a2)] [])) t → Steps p.tables e below (s₁.setTop (entryFrame m #[(.ref a1), (.ref a2)] 2)) t := fun t k => castTop (ef_rnn m a1 a2) k
  refine own_step (Q := fun o U' => ∃ v L, o = .returned v ∧ Qrnn Z a1 a2 h0 n0 v U'.heap L ∧ FrameEnd s o U' L ({ frames := 0, cells := 0, slots := 0, locals := 0 } : Room).cells ({ frames := 0, cells := 0, slots := 0, locals := 0 } : Room).slots) pre0 ?_
  obtain ⟨fs, hr, hrun, hended, hW, hsame⟩ := X0.leave (v := some (.ref a1)) (fun h => by rw [Bd.returns] at h; cases h)
  refine ⟨_, _, ?_, hrun, hended, _, _, rfl, ?_, ⟨_, rfl⟩, hW, hsame.mono (by decide) (by decide)⟩
  · show Steps p.tables e below (s₁.setTop (mkF m 0 #[.val (.ref a1), .val (.ref a2)] [])) _
    refine XS.aloadN X0.here hx rfl (hb hby d10_0) rfl rfl ?_
    show Steps p.tables e below (s₁.setTop (mkF m 1 #[.val (.ref a1), .val (.ref a2)] [(.ref a1)])) _
    refine XT.ifnonnullYes X0.here hx rfl (pc0 := 1) (pc' := 13) rfl (hb hby d10_1) rfl (by decide) (by decide) ?_
    show Steps p.tables e below (s₁.setTop (mkF m 13 #[.val (.ref a1), .val (.ref a2)] [])) _
    refine XS.aloadN X0.here hx rfl (hb hby d10_13) rfl rfl ?_
    show Steps p.tables e below (s₁.setTop (mkF m 14 #[.val (.ref a1), .val (.ref a2)] [(.ref a1)])) _
    jvm_step X0.here [X0.here.top, hx, (hb hby d10_14), X0.method', Bd.returns, Value.isRef, FieldType.isReference]
    first | (intro acts; rw [hr _ acts rfl rfl rfl]) | rw [hr _ _ rfl rfl rfl]
    exact Steps.refl _
  · show Qrnn Z a1 a2 h0 n0 _ s₁.heap _
    rw [e0]
    exact ⟨rfl, N0, rfl⟩
theorem d2_0 : decode method_3_code 0 = .ok (.iload_n 0, 1) := by decide +kernel
theorem d2_1 : decode method_3_code 1 = .ok (.iconst 1, 1) := by decide +kernel
theorem d2_2 : decode method_3_code 2 = .ok (.if_icmp .ne 18, 3) := by decide +kernel
theorem d2_5 : decode method_3_code 5 = .ok (.new 7, 3) := by decide +kernel
theorem d2_8 : decode method_3_code 8 = .ok (.dup, 1) := by decide +kernel
theorem d2_9 : decode method_3_code 9 = .ok (.iconst 1, 1) := by decide +kernel
theorem d2_10 : decode method_3_code 10 = .ok (.newarray .char, 2) := by decide +kernel
theorem d2_12 : decode method_3_code 12 = .ok (.dup, 1) := by decide +kernel
theorem d2_13 : decode method_3_code 13 = .ok (.iconst 0, 1) := by decide +kernel
theorem d2_14 : decode method_3_code 14 = .ok (.iload_n 1, 1) := by decide +kernel
theorem d2_15 : decode method_3_code 15 = .ok (.castore, 1) := by decide +kernel
theorem d2_16 : decode method_3_code 16 = .ok (.invokespecial 9, 3) := by decide +kernel
theorem d2_19 : decode method_3_code 19 = .ok (.areturn, 1) := by decide +kernel
theorem d2_20 : decode method_3_code 20 = .ok (.iload_n 0, 1) := by decide +kernel
theorem d2_21 : decode method_3_code 21 = .ok (.iconst 2, 1) := by decide +kernel
theorem d2_22 : decode method_3_code 22 = .ok (.if_icmp .ne 22, 3) := by decide +kernel
theorem d2_25 : decode method_3_code 25 = .ok (.new 7, 3) := by decide +kernel
theorem d2_28 : decode method_3_code 28 = .ok (.dup, 1) := by decide +kernel
theorem d2_29 : decode method_3_code 29 = .ok (.iconst 2, 1) := by decide +kernel
theorem d2_30 : decode method_3_code 30 = .ok (.newarray .char, 2) := by decide +kernel
theorem d2_32 : decode method_3_code 32 = .ok (.dup, 1) := by decide +kernel
theorem d2_33 : decode method_3_code 33 = .ok (.iconst 0, 1) := by decide +kernel
theorem d2_34 : decode method_3_code 34 = .ok (.iload_n 1, 1) := by decide +kernel
theorem d2_35 : decode method_3_code 35 = .ok (.castore, 1) := by decide +kernel
theorem d2_36 : decode method_3_code 36 = .ok (.dup, 1) := by decide +kernel
theorem d2_37 : decode method_3_code 37 = .ok (.iconst 1, 1) := by decide +kernel
theorem d2_38 : decode method_3_code 38 = .ok (.iload_n 2, 1) := by decide +kernel
theorem d2_39 : decode method_3_code 39 = .ok (.castore, 1) := by decide +kernel
theorem d2_40 : decode method_3_code 40 = .ok (.invokespecial 9, 3) := by decide +kernel
theorem d2_43 : decode method_3_code 43 = .ok (.areturn, 1) := by decide +kernel
theorem d2_44 : decode method_3_code 44 = .ok (.new 7, 3) := by decide +kernel
theorem d2_47 : decode method_3_code 47 = .ok (.dup, 1) := by decide +kernel
theorem d2_48 : decode method_3_code 48 = .ok (.iconst 3, 1) := by decide +kernel
theorem d2_49 : decode method_3_code 49 = .ok (.newarray .char, 2) := by decide +kernel
theorem d2_51 : decode method_3_code 51 = .ok (.dup, 1) := by decide +kernel
theorem d2_52 : decode method_3_code 52 = .ok (.iconst 0, 1) := by decide +kernel
theorem d2_53 : decode method_3_code 53 = .ok (.iload_n 1, 1) := by decide +kernel
theorem d2_54 : decode method_3_code 54 = .ok (.castore, 1) := by decide +kernel
theorem d2_55 : decode method_3_code 55 = .ok (.dup, 1) := by decide +kernel
theorem d2_56 : decode method_3_code 56 = .ok (.iconst 1, 1) := by decide +kernel
theorem d2_57 : decode method_3_code 57 = .ok (.iload_n 2, 1) := by decide +kernel
theorem d2_58 : decode method_3_code 58 = .ok (.castore, 1) := by decide +kernel
theorem d2_59 : decode method_3_code 59 = .ok (.dup, 1) := by decide +kernel
theorem d2_60 : decode method_3_code 60 = .ok (.iconst 2, 1) := by decide +kernel
theorem d2_61 : decode method_3_code 61 = .ok (.iload_n 3, 1) := by decide +kernel
theorem d2_62 : decode method_3_code 62 = .ok (.castore, 1) := by decide +kernel
theorem d2_63 : decode method_3_code 63 = .ok (.invokespecial 9, 3) := by decide +kernel
theorem d2_66 : decode method_3_code 66 = .ok (.areturn, 1) := by decide +kernel
theorem pn_mk : plainName "com/example/hitotabi/hitotabi/IdempotencyKeyEqualsPinLaw" = true := by first | (simp [plainName, overriddenIn]; done) | decide +kernel
theorem ef_mk (m : MethodId) (p1 : Int32) (p2 : Int32) (p3 : Int32) (p4 : Int32) : entryFrame m #[(.int p1), (.int p2), (.int p3), (.int p4)] 4 = mkF m 0 #[.val (.int p1), .val (.int p2), .val (.int p3), .val (.int p4)] [] := by first | (simp [entryFrame, mkF, argsToLocals, Value.category]; done) | rfl
def Qmk (Z : State) (p1 : Int32) (p2 : Int32) (p3 : Int32) (p4 : Int32) (cz : Int32) (h0 : Heap) (n0 : Nat) (v : Option Value) (h : Heap) (L : List Loc) : Prop := ∃ (r : Addr), v = some (.ref r) ∧ Fr n0 L ∧ Keep h0 h [] ∧ h0.size ≤ r ∧ (Exa Z h r "java/lang/String") ∧ (own_Str Z h r (fmk_x0 p1 p2 p3 p4 cz))
set_option maxRecDepth 65536 in
set_option maxHeartbeats 40000000 in
theorem rmmk (l : Launch) (Z : State) (a0 : Array Value) (hw : ∀ d ∈ tables_1, d.before a0 Z = true) (ws : List Jvm.Cond) (p1 : Int32) (p2 : Int32) (p3 : Int32) (p4 : Int32) (cz : Int32) (h0 : Heap) (n0 : Nat) (Z0 : n0 ≤ h0.size) (OLD : Old Z n0 h0) (pr2 : own_pr p2) (pr3 : own_pr p3) (pr4 : own_pr p4) (hCS : Sta Z Z.heap "java/lang/String" "COMPACT_STRINGS" "Z" (.int cz)) (hcz : ¬ cz = 0) :
    MetFree l (⟨"com/example/hitotabi/hitotabi/IdempotencyKeyEqualsPinLaw", "mk", "(ICCC)Ljava/lang/String;"⟩ : MethodName) (head1 (Jvm.Cond.code (⟨"com/example/hitotabi/hitotabi/IdempotencyKeyEqualsPinLaw", "mk", "(ICCC)Ljava/lang/String;"⟩ : MethodName) method_3_code 4 (some (.object "java/lang/String")) :: ws) ({ frames := 4, cells := 3, slots := 10, locals := 66 } : Room)) (fun a U => a = #[(.int p1), (.int p2), (.int p3), (.int p4)] ∧ Z.Warmed39 U.vm ∧ U.heap = h0) (fun _ _ _ _ _ => True) (fun _ U o U' => ∃ v L, o = .returned v ∧ Qmk Z p1 p2 p3 p4 cz h0 n0 v U'.heap L ∧ FrameEnd U o U' L ({ frames := 4, cells := 3, slots := 10, locals := 66 } : Room).cells ({ frames := 4, cells := 3, slots := 10, locals := 66 } : Room).slots) := by
  refine MetFree.of_bodySF (plainFor_of_name pn_mk) hisR ?_
  intro p e s m args below meth c s₁ Bd hml0 hP hK
  obtain ⟨rfl, hZ, hh⟩ := hP
  have hx := Bd.exec
  have hby := Bd.bytes
  have hml : c.maxLocals = 4 := hml0
  have hown : s.vm.findClass "com/example/hitotabi/hitotabi/IdempotencyKeyEqualsPinLaw" = some m.cls := findClass_of_methodNamed Bd.named
  have hnm := (name_of_methodNamed Bd.named Bd.method).1
  have X0 : Stand p l e ({ frames := 4, cells := 3, slots := 10, locals := 66 } : Room) s m #[(.int p1), (.int p2), (.int p3), (.int p4)] below meth c s₁ [] 0 0 := Stand.of_body Bd
  have e0 : s₁.heap = h0 := by rw [← hh, Bd.state]; rfl
  have N0 := Fr.nil n0
  have pre0 : ∀ t, Steps p.tables e below (s₁.setTop (mkF m 0 #[.val (.int p1), .val (.int p2), .val (.int p3), .val (.int p4)] [])) t → Steps p.tables e below (s₁.setTop (entryFrame m #[(.int p1), (.int p2), (.int p3), (.int p4)] 4)) t := fun t k => castTop (ef_mk m p1 p2 p3 p4) k
  refine own_step (Q := fun o U' => ∃ v L, o = .returned v ∧ Qmk Z p1 p2 p3 p4 cz h0 n0 v U'.heap L ∧ FrameEnd s o U' L ({ frames := 4, cells := 3, slots := 10, locals := 66 } : Room).cells ({ frames := 4, cells := 3, slots := 10, locals := 66 } : Room).slots) pre0 ?_
  have K0 : Keep h0 h0 [] := Keep.refl h0 []
  refine own_step (B := s₁.setTop (mkF m 2 #[.val (.int p1), .val (.int p2), .val (.int p3), .val (.int p4)] [(.int (1 : Int32)), (.int p1)])) (fun t k => ?_) ?_
  · show Steps p.tables e below (s₁.setTop (mkF m 0 #[.val (.int p1), .val (.int p2), .val (.int p3), .val (.int p4)] [])) _
    refine XS.iloadN X0.here hx rfl (hb hby d2_0) rfl ?_
    show Steps p.tables e below (s₁.setTop (mkF m 1 #[.val (.int p1), .val (.int p2), .val (.int p3), .val (.int p4)] [(.int p1)])) _
    refine XS.iconst X0.here hx rfl (hb hby d2_1) ?_
    exact k
  by_cases h1 : p1 = (1 : Int32)
  · obtain ⟨T2, h2, X2, e2, E2, A2, D2, -, st2⟩ := newO X0 hx hZ hown (hw _ (List.mem_of_getElem? (i := 10) rfl)) (hw _ (List.mem_of_getElem? (i := 11) rfl)) (hw _ (List.mem_of_getElem? (i := 12) rfl)) e0 (g := (mkF m 5 #[.val (.int p1), .val (.int p2), .val (.int p3), .val (.int p4)] [])) rfl (hb hby d2_5) (by decide) (by decide)
    obtain ⟨o2, g2⟩ : ∃ z, z = h0.size := ⟨_, rfl⟩
    rw [← g2] at A2 D2 st2
    have ge2 : n0 ≤ o2 := Nat.le_trans Z0 (Nat.le_of_eq g2.symm)
    have Z2 : n0 ≤ h2.size := Nat.le_trans Z0 E2.1
    have sz2 : h0.size ≤ o2 := Nat.le_trans K0.1 (Nat.le_of_eq g2.symm)
    have K2 := K0.ext E2
    have OL2 := OLD.ext E2
    have D2_37 : Fld Z h2 o2 "java/lang/String" "coder" "B" (.int (0 : Int32)) := D2 (Or.inr (hw _ (List.mem_of_getElem? (i := 37) rfl))) (ty := .byte) (by decide)
    have D2_39 : Fld Z h2 o2 "java/lang/String" "value" "[B" .null := D2 (Or.inr (hw _ (List.mem_of_getElem? (i := 39) rfl))) (ty := (.array .byte)) (by decide)
    obtain ⟨T3, h3, kc3, X3, e3, E3, A3, st3⟩ := newP X2 hx hZ (hw _ (List.mem_of_getElem? (i := 13) rfl)) e2 (g := (mkF m 10 #[.val (.int p1), .val (.int p2), .val (.int p3), .val (.int p4)] [(.int (1 : Int32)), (.ref o2), (.ref o2)])) rfl (hb hby d2_10) (n := (1 : Int32)) (rest := [(.ref o2), (.ref o2)]) rfl (by decide) (cap := 1) (by decide) (by decide) (by decide) (by decide)
    obtain ⟨o3, g3⟩ : ∃ z, z = h2.size := ⟨_, rfl⟩
    rw [← g3] at A3 st3
    have ne3_1 : o2 ≠ o3 := Nat.ne_of_lt (Nat.lt_of_lt_of_le A2.lt (Nat.le_of_eq g3.symm))
    have u3_0 := A2.ext E3
    have u3_1 := D2_37.ext E3
    have u3_2 := D2_39.ext E3
    have ge3 : n0 ≤ o3 := Nat.le_trans Z2 (Nat.le_of_eq g3.symm)
    have Z3 : n0 ≤ h3.size := Nat.le_trans Z2 E3.1
    have sz3 : h0.size ≤ o3 := Nat.le_trans K2.1 (Nat.le_of_eq g3.symm)
    have K3 := K2.ext E3
    have OL3 := OL2.ext E3
    have V3 : Arv Z h3 o3 kc3 .char (1 : Int32) [(.int (0 : Int32))] (.int (0 : Int32)) := (Arv.new A3 (by decide)).pad (pad_rep [] (.int (0 : Int32)) 1)
    obtain ⟨cl4, Ar4, qc4, S4, M4, H4, G4⟩ := id V3
    obtain ⟨T4, h4, X4, e4, W4, st4⟩ := stC X3 hx hZ e3 Ar4 (j := (0 : Int32)) (inb_of S4 (by decide)) (g := (mkF m 15 #[.val (.int p1), .val (.int p2), .val (.int p3), .val (.int p4)] [(.int p2), (.int (0 : Int32)), (.ref o3), (.ref o3), (.ref o2), (.ref o2)])) rfl rfl (hb hby d2_15)
    have u4_0 := u3_0.wr W4
    have u4_1 := u3_1.other W4 (Or.inl ne3_1)
    have u4_2 := u3_2.other W4 (Or.inl ne3_1)
    have K4 := K3.wr W4 (Or.inr sz3)
    have Z4 : n0 ≤ h4.size := Nat.le_trans Z3 (Keep.of_wr W4).1
    have N4 := Fr.snoc X4 N0 ge3
    have OL4 := OL3.wr W4 ge3
    have V4 : Arv Z h4 o3 kc3 .char (1 : Int32) [(.int p2.toUInt32.toUInt16.toUInt32.toInt32)] (.int (0 : Int32)) := Arv.set Ar4 qc4 S4 M4 H4 G4 (fits_nar_char _) W4 0 (by decide) (by show 0 < 1; decide)
    have hp5 : ∀ c ∈ ([p2.toUInt32.toUInt16.toUInt32.toInt32] : List Int32), ¬ c < 0 ∧ ¬ (255 : Int32) < c := by
      intro c hc
      simp only [List.mem_cons, List.not_mem_nil, or_false] at hc
      rcases hc with rfl
      · exact own_bc pr2
    obtain ⟨_, _, ⟨T5, L5, k5, n5⟩, -, X5, ⟨Lc5, hQ5, l5, y5, z5⟩, st5⟩ := X4.specialBack hx (y := (⟨"java/lang/String", "<init>", "([C)V"⟩ : MethodName)) rfl hown (mvT hZ (hw _ (List.mem_of_getElem? (i := 14) rfl))) (mvT hZ (hw _ (List.mem_of_getElem? (i := 15) rfl))) (mvT hZ (hw _ (List.mem_of_getElem? (i := 16) rfl))) (by decide) (StrChars.Road.backV (W := 1) hZ (own_wV hw) (kI := 4) (hw _ (List.mem_of_getElem? (i := 11) rfl)) (cs := ([p2.toUInt32.toUInt16.toUInt32.toInt32] : List Int32)) (bs := (([p2.toUInt32.toUInt16.toUInt32.toInt32] : List Int32)).map (fun c => c.toInt8.toInt32)) (n := 1) ge2 Z4 u4_0 u4_2 u4_1 V4 (Sta.ext OL4.2 hCS) hcz rfl rfl (by decide) (by decide) hp5 rfl (by decide) (by decide)) (g := (mkF m 16 #[.val (.int p1), .val (.int p2), .val (.int p3), .val (.int p4)] [(.ref o3), (.ref o2), (.ref o2)])) rfl (by rw [hml]; rfl) (Steps.refl _) (a := o2) (argsL := [(.ref o3)]) (rest := [(.ref o2)]) (lenOf pd_5 rfl) rfl (by show 2 * 0 + _ ≤ _; exact Nat.le_of_eq rfl) (hb hby d2_16) (fun _ _ => ⟨rfl, e4, (by decide : 2 + 1 ≤ _), (by decide : 5 + 1 ≤ _)⟩)
    dsimp only [Pt.U, Pt.locs, Pt.cells, Pt.slots] at X5 l5 y5 z5 st5 hQ5
    subst l5 y5 z5
    obtain ⟨rfl, N5q, Kc5, Ex5, Fc5, tb5, kb5, -, -, -, Fv5, Vb5⟩ := hQ5
    have N5 := Fr.app N4 N5q
    have u5_0 := u4_0.keep Kc5
    have u5_3 := V4.keep Kc5 (by simp only [List.mem_cons, List.not_mem_nil, or_false, not_or]; exact (Ne.symm ne3_1))
    have OL5 := OL4.keep Kc5 (fun x hx => by cases List.mem_singleton.mp hx; exact ge2)
    have K5 := K4.trans Kc5 (fun x hx => by cases List.mem_singleton.mp hx; exact Or.inr sz2)
    have Z5 : n0 ≤ T5.heap.size := Nat.le_trans Z4 Kc5.1
    have T_5 : own_Str Z T5.heap o2 ([p2.toUInt32.toUInt16.toUInt32.toInt32] : List Int32) := own_Str.of Ex5 Fv5 Fc5 Vb5 rfl rfl hp5 (by show 1 ≤ 4000; decide)
    obtain ⟨fs, hr, hrun, hended, hW, hsame⟩ := X5.leave (v := some (.ref o2)) (fun h => by rw [Bd.returns] at h; cases h)
    refine ⟨_, _, ?_, hrun, hended, _, _, rfl, ?_, ⟨_, rfl⟩, hW, hsame.mono (by decide) (by decide)⟩
    · show Steps p.tables e below (s₁.setTop (mkF m 2 #[.val (.int p1), .val (.int p2), .val (.int p3), .val (.int p4)] [(.int (1 : Int32)), (.int p1)])) _
      refine XS.icmpNo X0.here hx rfl (hb hby d2_2) rfl (teq h1).2 ?_
      show Steps p.tables e below (s₁.setTop (mkF m 5 #[.val (.int p1), .val (.int p2), .val (.int p3), .val (.int p4)] [])) _
      refine st2 _ ?_
      show Steps p.tables e below (T2.setTop (mkF m 8 #[.val (.int p1), .val (.int p2), .val (.int p3), .val (.int p4)] [(.ref o2)])) _
      refine XS.dup X2.here hx rfl (hb hby d2_8) rfl rfl ?_
      show Steps p.tables e below (T2.setTop (mkF m 9 #[.val (.int p1), .val (.int p2), .val (.int p3), .val (.int p4)] [(.ref o2), (.ref o2)])) _
      refine XS.iconst X2.here hx rfl (hb hby d2_9) ?_
      show Steps p.tables e below (T2.setTop (mkF m 10 #[.val (.int p1), .val (.int p2), .val (.int p3), .val (.int p4)] [(.int (1 : Int32)), (.ref o2), (.ref o2)])) _
      refine st3 _ ?_
      show Steps p.tables e below (T3.setTop (mkF m 12 #[.val (.int p1), .val (.int p2), .val (.int p3), .val (.int p4)] [(.ref o3), (.ref o2), (.ref o2)])) _
      refine XS.dup X3.here hx rfl (hb hby d2_12) rfl rfl ?_
      show Steps p.tables e below (T3.setTop (mkF m 13 #[.val (.int p1), .val (.int p2), .val (.int p3), .val (.int p4)] [(.ref o3), (.ref o3), (.ref o2), (.ref o2)])) _
      refine XS.iconst X3.here hx rfl (hb hby d2_13) ?_
      show Steps p.tables e below (T3.setTop (mkF m 14 #[.val (.int p1), .val (.int p2), .val (.int p3), .val (.int p4)] [(.int (0 : Int32)), (.ref o3), (.ref o3), (.ref o2), (.ref o2)])) _
      refine XS.iloadN X3.here hx rfl (hb hby d2_14) rfl ?_
      show Steps p.tables e below (T3.setTop (mkF m 15 #[.val (.int p1), .val (.int p2), .val (.int p3), .val (.int p4)] [(.int p2), (.int (0 : Int32)), (.ref o3), (.ref o3), (.ref o2), (.ref o2)])) _
      refine st4 _ ?_
      show Steps p.tables e below (T4.setTop (mkF m 16 #[.val (.int p1), .val (.int p2), .val (.int p3), .val (.int p4)] [(.ref o3), (.ref o2), (.ref o2)])) _
      refine st5.trans ?_
      show Steps p.tables e below (T5.setTop (mkF m 19 #[.val (.int p1), .val (.int p2), .val (.int p3), .val (.int p4)] [(.ref o2)])) _
      jvm_step X5.here [X5.here.top, hx, (hb hby d2_19), X5.method', Bd.returns, Value.isRef, FieldType.isReference]
      first | (intro acts; rw [hr _ acts rfl rfl rfl]) | rw [hr _ _ rfl rfl rfl]
      exact Steps.refl _
    · show Qmk Z p1 p2 p3 p4 cz h0 n0 _ T5.heap _
      have hx1 : fmk_x0 p1 p2 p3 p4 cz = ([p2.toUInt32.toUInt16.toUInt32.toInt32] : List Int32) := by simp only [fmk_x0, if_pos h1]
      exact ⟨o2, rfl, N5, K5, sz2, Ex5, (by rw [hx1]; exact T_5)⟩
  · refine own_step (B := s₁.setTop (mkF m 22 #[.val (.int p1), .val (.int p2), .val (.int p3), .val (.int p4)] [(.int (2 : Int32)), (.int p1)])) (fun t k => ?_) ?_
    · show Steps p.tables e below (s₁.setTop (mkF m 2 #[.val (.int p1), .val (.int p2), .val (.int p3), .val (.int p4)] [(.int (1 : Int32)), (.int p1)])) _
      refine XS.icmpYes X0.here hx rfl (pc0 := 2) (pc' := 20) rfl (hb hby d2_2) rfl (feq h1).2 (by decide) (by decide) ?_
      show Steps p.tables e below (s₁.setTop (mkF m 20 #[.val (.int p1), .val (.int p2), .val (.int p3), .val (.int p4)] [])) _
      refine XS.iloadN X0.here hx rfl (hb hby d2_20) rfl ?_
      show Steps p.tables e below (s₁.setTop (mkF m 21 #[.val (.int p1), .val (.int p2), .val (.int p3), .val (.int p4)] [(.int p1)])) _
      refine XS.iconst X0.here hx rfl (hb hby d2_21) ?_
      exact k
    by_cases h6 : p1 = (2 : Int32)
    · obtain ⟨T7, h7, X7, e7, E7, A7, D7, -, st7⟩ := newO X0 hx hZ hown (hw _ (List.mem_of_getElem? (i := 10) rfl)) (hw _ (List.mem_of_getElem? (i := 11) rfl)) (hw _ (List.mem_of_getElem? (i := 12) rfl)) e0 (g := (mkF m 25 #[.val (.int p1), .val (.int p2), .val (.int p3), .val (.int p4)] [])) rfl (hb hby d2_25) (by decide) (by decide)
      obtain ⟨o7, g7⟩ : ∃ z, z = h0.size := ⟨_, rfl⟩
      rw [← g7] at A7 D7 st7
      have ge7 : n0 ≤ o7 := Nat.le_trans Z0 (Nat.le_of_eq g7.symm)
      have Z7 : n0 ≤ h7.size := Nat.le_trans Z0 E7.1
      have sz7 : h0.size ≤ o7 := Nat.le_trans K0.1 (Nat.le_of_eq g7.symm)
      have K7 := K0.ext E7
      have OL7 := OLD.ext E7
      have D7_37 : Fld Z h7 o7 "java/lang/String" "coder" "B" (.int (0 : Int32)) := D7 (Or.inr (hw _ (List.mem_of_getElem? (i := 37) rfl))) (ty := .byte) (by decide)
      have D7_39 : Fld Z h7 o7 "java/lang/String" "value" "[B" .null := D7 (Or.inr (hw _ (List.mem_of_getElem? (i := 39) rfl))) (ty := (.array .byte)) (by decide)
      obtain ⟨T8, h8, kc8, X8, e8, E8, A8, st8⟩ := newP X7 hx hZ (hw _ (List.mem_of_getElem? (i := 13) rfl)) e7 (g := (mkF m 30 #[.val (.int p1), .val (.int p2), .val (.int p3), .val (.int p4)] [(.int (2 : Int32)), (.ref o7), (.ref o7)])) rfl (hb hby d2_30) (n := (2 : Int32)) (rest := [(.ref o7), (.ref o7)]) rfl (by decide) (cap := 2) (by decide) (by decide) (by decide) (by decide)
      obtain ⟨o8, g8⟩ : ∃ z, z = h7.size := ⟨_, rfl⟩
      rw [← g8] at A8 st8
      have ne8_1 : o7 ≠ o8 := Nat.ne_of_lt (Nat.lt_of_lt_of_le A7.lt (Nat.le_of_eq g8.symm))
      have u8_0 := A7.ext E8
      have u8_1 := D7_37.ext E8
      have u8_2 := D7_39.ext E8
      have ge8 : n0 ≤ o8 := Nat.le_trans Z7 (Nat.le_of_eq g8.symm)
      have Z8 : n0 ≤ h8.size := Nat.le_trans Z7 E8.1
      have sz8 : h0.size ≤ o8 := Nat.le_trans K7.1 (Nat.le_of_eq g8.symm)
      have K8 := K7.ext E8
      have OL8 := OL7.ext E8
      have V8 : Arv Z h8 o8 kc8 .char (2 : Int32) [(.int (0 : Int32)), (.int (0 : Int32))] (.int (0 : Int32)) := (Arv.new A8 (by decide)).pad (pad_rep [] (.int (0 : Int32)) 2)
      obtain ⟨cl9, Ar9, qc9, S9, M9, H9, G9⟩ := id V8
      obtain ⟨T9, h9, X9, e9, W9, st9⟩ := stC X8 hx hZ e8 Ar9 (j := (0 : Int32)) (inb_of S9 (by decide)) (g := (mkF m 35 #[.val (.int p1), .val (.int p2), .val (.int p3), .val (.int p4)] [(.int p2), (.int (0 : Int32)), (.ref o8), (.ref o8), (.ref o7), (.ref o7)])) rfl rfl (hb hby d2_35)
      have u9_0 := u8_0.wr W9
      have u9_1 := u8_1.other W9 (Or.inl ne8_1)
      have u9_2 := u8_2.other W9 (Or.inl ne8_1)
      have K9 := K8.wr W9 (Or.inr sz8)
      have Z9 : n0 ≤ h9.size := Nat.le_trans Z8 (Keep.of_wr W9).1
      have N9 := Fr.snoc X9 N0 ge8
      have OL9 := OL8.wr W9 ge8
      have V9 : Arv Z h9 o8 kc8 .char (2 : Int32) [(.int p2.toUInt32.toUInt16.toUInt32.toInt32), (.int (0 : Int32))] (.int (0 : Int32)) := Arv.set Ar9 qc9 S9 M9 H9 G9 (fits_nar_char _) W9 0 (by decide) (by show 0 < 2; decide)
      obtain ⟨cl10, Ar10, qc10, S10, M10, H10, G10⟩ := id V9
      obtain ⟨T10, h10, X10, e10, W10, st10⟩ := stC X9 hx hZ e9 Ar10 (j := (1 : Int32)) (inb_of S10 (by decide)) (g := (mkF m 39 #[.val (.int p1), .val (.int p2), .val (.int p3), .val (.int p4)] [(.int p3), (.int (1 : Int32)), (.ref o8), (.ref o8), (.ref o7), (.ref o7)])) rfl rfl (hb hby d2_39)
      have u10_0 := u9_0.wr W10
      have u10_1 := u9_1.other W10 (Or.inl ne8_1)
      have u10_2 := u9_2.other W10 (Or.inl ne8_1)
      have K10 := K9.wr W10 (Or.inr sz8)
      have Z10 : n0 ≤ h10.size := Nat.le_trans Z9 (Keep.of_wr W10).1
      have N10 := Fr.snoc X10 N9 ge8
      have OL10 := OL9.wr W10 ge8
      have V10 : Arv Z h10 o8 kc8 .char (2 : Int32) [(.int p2.toUInt32.toUInt16.toUInt32.toInt32), (.int p3.toUInt32.toUInt16.toUInt32.toInt32)] (.int (0 : Int32)) := Arv.set Ar10 qc10 S10 M10 H10 G10 (fits_nar_char _) W10 1 (by decide) (by show 1 < 2; decide)
      have hp11 : ∀ c ∈ ([p2.toUInt32.toUInt16.toUInt32.toInt32, p3.toUInt32.toUInt16.toUInt32.toInt32] : List Int32), ¬ c < 0 ∧ ¬ (255 : Int32) < c := by
        intro c hc
        simp only [List.mem_cons, List.not_mem_nil, or_false] at hc
        rcases hc with rfl | rfl
        · exact own_bc pr2
        · exact own_bc pr3
      obtain ⟨_, _, ⟨T11, L11, k11, n11⟩, -, X11, ⟨Lc11, hQ11, l11, y11, z11⟩, st11⟩ := X10.specialBack hx (y := (⟨"java/lang/String", "<init>", "([C)V"⟩ : MethodName)) rfl hown (mvT hZ (hw _ (List.mem_of_getElem? (i := 14) rfl))) (mvT hZ (hw _ (List.mem_of_getElem? (i := 15) rfl))) (mvT hZ (hw _ (List.mem_of_getElem? (i := 16) rfl))) (by decide) (StrChars.Road.backV (W := 1) hZ (own_wV hw) (kI := 4) (hw _ (List.mem_of_getElem? (i := 11) rfl)) (cs := ([p2.toUInt32.toUInt16.toUInt32.toInt32, p3.toUInt32.toUInt16.toUInt32.toInt32] : List Int32)) (bs := (([p2.toUInt32.toUInt16.toUInt32.toInt32, p3.toUInt32.toUInt16.toUInt32.toInt32] : List Int32)).map (fun c => c.toInt8.toInt32)) (n := 2) ge7 Z10 u10_0 u10_2 u10_1 V10 (Sta.ext OL10.2 hCS) hcz rfl rfl (by decide) (by decide) hp11 rfl (by decide) (by decide)) (g := (mkF m 40 #[.val (.int p1), .val (.int p2), .val (.int p3), .val (.int p4)] [(.ref o8), (.ref o7), (.ref o7)])) rfl (by rw [hml]; rfl) (Steps.refl _) (a := o7) (argsL := [(.ref o8)]) (rest := [(.ref o7)]) (lenOf pd_5 rfl) rfl (by show 2 * 0 + _ ≤ _; exact Nat.le_of_eq rfl) (hb hby d2_40) (fun _ _ => ⟨rfl, e10, (by decide : 2 + 1 ≤ _), (by decide : 6 + 2 ≤ _)⟩)
      dsimp only [Pt.U, Pt.locs, Pt.cells, Pt.slots] at X11 l11 y11 z11 st11 hQ11
      subst l11 y11 z11
      obtain ⟨rfl, N11q, Kc11, Ex11, Fc11, tb11, kb11, -, -, -, Fv11, Vb11⟩ := hQ11
      have N11 := Fr.app N10 N11q
      have u11_0 := u10_0.keep Kc11
      have u11_3 := V10.keep Kc11 (by simp only [List.mem_cons, List.not_mem_nil, or_false, not_or]; exact (Ne.symm ne8_1))
      have OL11 := OL10.keep Kc11 (fun x hx => by cases List.mem_singleton.mp hx; exact ge7)
      have K11 := K10.trans Kc11 (fun x hx => by cases List.mem_singleton.mp hx; exact Or.inr sz7)
      have Z11 : n0 ≤ T11.heap.size := Nat.le_trans Z10 Kc11.1
      have T_11 : own_Str Z T11.heap o7 ([p2.toUInt32.toUInt16.toUInt32.toInt32, p3.toUInt32.toUInt16.toUInt32.toInt32] : List Int32) := own_Str.of Ex11 Fv11 Fc11 Vb11 rfl rfl hp11 (by show 2 ≤ 4000; decide)
      obtain ⟨fs, hr, hrun, hended, hW, hsame⟩ := X11.leave (v := some (.ref o7)) (fun h => by rw [Bd.returns] at h; cases h)
      refine ⟨_, _, ?_, hrun, hended, _, _, rfl, ?_, ⟨_, rfl⟩, hW, hsame.mono (by decide) (by decide)⟩
      · show Steps p.tables e below (s₁.setTop (mkF m 22 #[.val (.int p1), .val (.int p2), .val (.int p3), .val (.int p4)] [(.int (2 : Int32)), (.int p1)])) _
        refine XS.icmpNo X0.here hx rfl (hb hby d2_22) rfl (teq h6).2 ?_
        show Steps p.tables e below (s₁.setTop (mkF m 25 #[.val (.int p1), .val (.int p2), .val (.int p3), .val (.int p4)] [])) _
        refine st7 _ ?_
        show Steps p.tables e below (T7.setTop (mkF m 28 #[.val (.int p1), .val (.int p2), .val (.int p3), .val (.int p4)] [(.ref o7)])) _
        refine XS.dup X7.here hx rfl (hb hby d2_28) rfl rfl ?_
        show Steps p.tables e below (T7.setTop (mkF m 29 #[.val (.int p1), .val (.int p2), .val (.int p3), .val (.int p4)] [(.ref o7), (.ref o7)])) _
        refine XS.iconst X7.here hx rfl (hb hby d2_29) ?_
        show Steps p.tables e below (T7.setTop (mkF m 30 #[.val (.int p1), .val (.int p2), .val (.int p3), .val (.int p4)] [(.int (2 : Int32)), (.ref o7), (.ref o7)])) _
        refine st8 _ ?_
        show Steps p.tables e below (T8.setTop (mkF m 32 #[.val (.int p1), .val (.int p2), .val (.int p3), .val (.int p4)] [(.ref o8), (.ref o7), (.ref o7)])) _
        refine XS.dup X8.here hx rfl (hb hby d2_32) rfl rfl ?_
        show Steps p.tables e below (T8.setTop (mkF m 33 #[.val (.int p1), .val (.int p2), .val (.int p3), .val (.int p4)] [(.ref o8), (.ref o8), (.ref o7), (.ref o7)])) _
        refine XS.iconst X8.here hx rfl (hb hby d2_33) ?_
        show Steps p.tables e below (T8.setTop (mkF m 34 #[.val (.int p1), .val (.int p2), .val (.int p3), .val (.int p4)] [(.int (0 : Int32)), (.ref o8), (.ref o8), (.ref o7), (.ref o7)])) _
        refine XS.iloadN X8.here hx rfl (hb hby d2_34) rfl ?_
        show Steps p.tables e below (T8.setTop (mkF m 35 #[.val (.int p1), .val (.int p2), .val (.int p3), .val (.int p4)] [(.int p2), (.int (0 : Int32)), (.ref o8), (.ref o8), (.ref o7), (.ref o7)])) _
        refine st9 _ ?_
        show Steps p.tables e below (T9.setTop (mkF m 36 #[.val (.int p1), .val (.int p2), .val (.int p3), .val (.int p4)] [(.ref o8), (.ref o7), (.ref o7)])) _
        refine XS.dup X9.here hx rfl (hb hby d2_36) rfl rfl ?_
        show Steps p.tables e below (T9.setTop (mkF m 37 #[.val (.int p1), .val (.int p2), .val (.int p3), .val (.int p4)] [(.ref o8), (.ref o8), (.ref o7), (.ref o7)])) _
        refine XS.iconst X9.here hx rfl (hb hby d2_37) ?_
        show Steps p.tables e below (T9.setTop (mkF m 38 #[.val (.int p1), .val (.int p2), .val (.int p3), .val (.int p4)] [(.int (1 : Int32)), (.ref o8), (.ref o8), (.ref o7), (.ref o7)])) _
        refine XS.iloadN X9.here hx rfl (hb hby d2_38) rfl ?_
        show Steps p.tables e below (T9.setTop (mkF m 39 #[.val (.int p1), .val (.int p2), .val (.int p3), .val (.int p4)] [(.int p3), (.int (1 : Int32)), (.ref o8), (.ref o8), (.ref o7), (.ref o7)])) _
        refine st10 _ ?_
        show Steps p.tables e below (T10.setTop (mkF m 40 #[.val (.int p1), .val (.int p2), .val (.int p3), .val (.int p4)] [(.ref o8), (.ref o7), (.ref o7)])) _
        refine st11.trans ?_
        show Steps p.tables e below (T11.setTop (mkF m 43 #[.val (.int p1), .val (.int p2), .val (.int p3), .val (.int p4)] [(.ref o7)])) _
        jvm_step X11.here [X11.here.top, hx, (hb hby d2_43), X11.method', Bd.returns, Value.isRef, FieldType.isReference]
        first | (intro acts; rw [hr _ acts rfl rfl rfl]) | rw [hr _ _ rfl rfl rfl]
        exact Steps.refl _
      · show Qmk Z p1 p2 p3 p4 cz h0 n0 _ T11.heap _
        have hx1 : fmk_x0 p1 p2 p3 p4 cz = ([p2.toUInt32.toUInt16.toUInt32.toInt32, p3.toUInt32.toUInt16.toUInt32.toInt32] : List Int32) := by simp only [fmk_x0, if_neg h1, if_pos h6]
        exact ⟨o7, rfl, N11, K11, sz7, Ex11, (by rw [hx1]; exact T_11)⟩
    · obtain ⟨T12, h12, X12, e12, E12, A12, D12, -, st12⟩ := newO X0 hx hZ hown (hw _ (List.mem_of_getElem? (i := 10) rfl)) (hw _ (List.mem_of_getElem? (i := 11) rfl)) (hw _ (List.mem_of_getElem? (i := 12) rfl)) e0 (g := (mkF m 44 #[.val (.int p1), .val (.int p2), .val (.int p3), .val (.int p4)] [])) rfl (hb hby d2_44) (by decide) (by decide)
      obtain ⟨o12, g12⟩ : ∃ z, z = h0.size := ⟨_, rfl⟩
      rw [← g12] at A12 D12 st12
      have ge12 : n0 ≤ o12 := Nat.le_trans Z0 (Nat.le_of_eq g12.symm)
      have Z12 : n0 ≤ h12.size := Nat.le_trans Z0 E12.1
      have sz12 : h0.size ≤ o12 := Nat.le_trans K0.1 (Nat.le_of_eq g12.symm)
      have K12 := K0.ext E12
      have OL12 := OLD.ext E12
      have D12_37 : Fld Z h12 o12 "java/lang/String" "coder" "B" (.int (0 : Int32)) := D12 (Or.inr (hw _ (List.mem_of_getElem? (i := 37) rfl))) (ty := .byte) (by decide)
      have D12_39 : Fld Z h12 o12 "java/lang/String" "value" "[B" .null := D12 (Or.inr (hw _ (List.mem_of_getElem? (i := 39) rfl))) (ty := (.array .byte)) (by decide)
      obtain ⟨T13, h13, kc13, X13, e13, E13, A13, st13⟩ := newP X12 hx hZ (hw _ (List.mem_of_getElem? (i := 13) rfl)) e12 (g := (mkF m 49 #[.val (.int p1), .val (.int p2), .val (.int p3), .val (.int p4)] [(.int (3 : Int32)), (.ref o12), (.ref o12)])) rfl (hb hby d2_49) (n := (3 : Int32)) (rest := [(.ref o12), (.ref o12)]) rfl (by decide) (cap := 3) (by decide) (by decide) (by decide) (by decide)
      obtain ⟨o13, g13⟩ : ∃ z, z = h12.size := ⟨_, rfl⟩
      rw [← g13] at A13 st13
      have ne13_1 : o12 ≠ o13 := Nat.ne_of_lt (Nat.lt_of_lt_of_le A12.lt (Nat.le_of_eq g13.symm))
      have u13_0 := A12.ext E13
      have u13_1 := D12_37.ext E13
      have u13_2 := D12_39.ext E13
      have ge13 : n0 ≤ o13 := Nat.le_trans Z12 (Nat.le_of_eq g13.symm)
      have Z13 : n0 ≤ h13.size := Nat.le_trans Z12 E13.1
      have sz13 : h0.size ≤ o13 := Nat.le_trans K12.1 (Nat.le_of_eq g13.symm)
      have K13 := K12.ext E13
      have OL13 := OL12.ext E13
      have V13 : Arv Z h13 o13 kc13 .char (3 : Int32) [(.int (0 : Int32)), (.int (0 : Int32)), (.int (0 : Int32))] (.int (0 : Int32)) := (Arv.new A13 (by decide)).pad (pad_rep [] (.int (0 : Int32)) 3)
      obtain ⟨cl14, Ar14, qc14, S14, M14, H14, G14⟩ := id V13
      obtain ⟨T14, h14, X14, e14, W14, st14⟩ := stC X13 hx hZ e13 Ar14 (j := (0 : Int32)) (inb_of S14 (by decide)) (g := (mkF m 54 #[.val (.int p1), .val (.int p2), .val (.int p3), .val (.int p4)] [(.int p2), (.int (0 : Int32)), (.ref o13), (.ref o13), (.ref o12), (.ref o12)])) rfl rfl (hb hby d2_54)
      have u14_0 := u13_0.wr W14
      have u14_1 := u13_1.other W14 (Or.inl ne13_1)
      have u14_2 := u13_2.other W14 (Or.inl ne13_1)
      have K14 := K13.wr W14 (Or.inr sz13)
      have Z14 : n0 ≤ h14.size := Nat.le_trans Z13 (Keep.of_wr W14).1
      have N14 := Fr.snoc X14 N0 ge13
      have OL14 := OL13.wr W14 ge13
      have V14 : Arv Z h14 o13 kc13 .char (3 : Int32) [(.int p2.toUInt32.toUInt16.toUInt32.toInt32), (.int (0 : Int32)), (.int (0 : Int32))] (.int (0 : Int32)) := Arv.set Ar14 qc14 S14 M14 H14 G14 (fits_nar_char _) W14 0 (by decide) (by show 0 < 3; decide)
      obtain ⟨cl15, Ar15, qc15, S15, M15, H15, G15⟩ := id V14
      obtain ⟨T15, h15, X15, e15, W15, st15⟩ := stC X14 hx hZ e14 Ar15 (j := (1 : Int32)) (inb_of S15 (by decide)) (g := (mkF m 58 #[.val (.int p1), .val (.int p2), .val (.int p3), .val (.int p4)] [(.int p3), (.int (1 : Int32)), (.ref o13), (.ref o13), (.ref o12), (.ref o12)])) rfl rfl (hb hby d2_58)
      have u15_0 := u14_0.wr W15
      have u15_1 := u14_1.other W15 (Or.inl ne13_1)
      have u15_2 := u14_2.other W15 (Or.inl ne13_1)
      have K15 := K14.wr W15 (Or.inr sz13)
      have Z15 : n0 ≤ h15.size := Nat.le_trans Z14 (Keep.of_wr W15).1
      have N15 := Fr.snoc X15 N14 ge13
      have OL15 := OL14.wr W15 ge13
      have V15 : Arv Z h15 o13 kc13 .char (3 : Int32) [(.int p2.toUInt32.toUInt16.toUInt32.toInt32), (.int p3.toUInt32.toUInt16.toUInt32.toInt32), (.int (0 : Int32))] (.int (0 : Int32)) := Arv.set Ar15 qc15 S15 M15 H15 G15 (fits_nar_char _) W15 1 (by decide) (by show 1 < 3; decide)
      obtain ⟨cl16, Ar16, qc16, S16, M16, H16, G16⟩ := id V15
      obtain ⟨T16, h16, X16, e16, W16, st16⟩ := stC X15 hx hZ e15 Ar16 (j := (2 : Int32)) (inb_of S16 (by decide)) (g := (mkF m 62 #[.val (.int p1), .val (.int p2), .val (.int p3), .val (.int p4)] [(.int p4), (.int (2 : Int32)), (.ref o13), (.ref o13), (.ref o12), (.ref o12)])) rfl rfl (hb hby d2_62)
      have u16_0 := u15_0.wr W16
      have u16_1 := u15_1.other W16 (Or.inl ne13_1)
      have u16_2 := u15_2.other W16 (Or.inl ne13_1)
      have K16 := K15.wr W16 (Or.inr sz13)
      have Z16 : n0 ≤ h16.size := Nat.le_trans Z15 (Keep.of_wr W16).1
      have N16 := Fr.snoc X16 N15 ge13
      have OL16 := OL15.wr W16 ge13
      have V16 : Arv Z h16 o13 kc13 .char (3 : Int32) [(.int p2.toUInt32.toUInt16.toUInt32.toInt32), (.int p3.toUInt32.toUInt16.toUInt32.toInt32), (.int p4.toUInt32.toUInt16.toUInt32.toInt32)] (.int (0 : Int32)) := Arv.set Ar16 qc16 S16 M16 H16 G16 (fits_nar_char _) W16 2 (by decide) (by show 2 < 3; decide)
      have hp17 : ∀ c ∈ ([p2.toUInt32.toUInt16.toUInt32.toInt32, p3.toUInt32.toUInt16.toUInt32.toInt32, p4.toUInt32.toUInt16.toUInt32.toInt32] : List Int32), ¬ c < 0 ∧ ¬ (255 : Int32) < c := by
        intro c hc
        simp only [List.mem_cons, List.not_mem_nil, or_false] at hc
        rcases hc with rfl | rfl | rfl
        · exact own_bc pr2
        · exact own_bc pr3
        · exact own_bc pr4
      obtain ⟨_, _, ⟨T17, L17, k17, n17⟩, -, X17, ⟨Lc17, hQ17, l17, y17, z17⟩, st17⟩ := X16.specialBack hx (y := (⟨"java/lang/String", "<init>", "([C)V"⟩ : MethodName)) rfl hown (mvT hZ (hw _ (List.mem_of_getElem? (i := 14) rfl))) (mvT hZ (hw _ (List.mem_of_getElem? (i := 15) rfl))) (mvT hZ (hw _ (List.mem_of_getElem? (i := 16) rfl))) (by decide) (StrChars.Road.backV (W := 1) hZ (own_wV hw) (kI := 4) (hw _ (List.mem_of_getElem? (i := 11) rfl)) (cs := ([p2.toUInt32.toUInt16.toUInt32.toInt32, p3.toUInt32.toUInt16.toUInt32.toInt32, p4.toUInt32.toUInt16.toUInt32.toInt32] : List Int32)) (bs := (([p2.toUInt32.toUInt16.toUInt32.toInt32, p3.toUInt32.toUInt16.toUInt32.toInt32, p4.toUInt32.toUInt16.toUInt32.toInt32] : List Int32)).map (fun c => c.toInt8.toInt32)) (n := 3) ge12 Z16 u16_0 u16_2 u16_1 V16 (Sta.ext OL16.2 hCS) hcz rfl rfl (by decide) (by decide) hp17 rfl (by decide) (by decide)) (g := (mkF m 63 #[.val (.int p1), .val (.int p2), .val (.int p3), .val (.int p4)] [(.ref o13), (.ref o12), (.ref o12)])) rfl (by rw [hml]; rfl) (Steps.refl _) (a := o12) (argsL := [(.ref o13)]) (rest := [(.ref o12)]) (lenOf pd_5 rfl) rfl (by show 2 * 0 + _ ≤ _; exact Nat.le_of_eq rfl) (hb hby d2_63) (fun _ _ => ⟨rfl, e16, (by decide : 2 + 1 ≤ _), (by decide : 7 + 3 ≤ _)⟩)
      dsimp only [Pt.U, Pt.locs, Pt.cells, Pt.slots] at X17 l17 y17 z17 st17 hQ17
      subst l17 y17 z17
      obtain ⟨rfl, N17q, Kc17, Ex17, Fc17, tb17, kb17, -, -, -, Fv17, Vb17⟩ := hQ17
      have N17 := Fr.app N16 N17q
      have u17_0 := u16_0.keep Kc17
      have u17_3 := V16.keep Kc17 (by simp only [List.mem_cons, List.not_mem_nil, or_false, not_or]; exact (Ne.symm ne13_1))
      have OL17 := OL16.keep Kc17 (fun x hx => by cases List.mem_singleton.mp hx; exact ge12)
      have K17 := K16.trans Kc17 (fun x hx => by cases List.mem_singleton.mp hx; exact Or.inr sz12)
      have Z17 : n0 ≤ T17.heap.size := Nat.le_trans Z16 Kc17.1
      have T_17 : own_Str Z T17.heap o12 ([p2.toUInt32.toUInt16.toUInt32.toInt32, p3.toUInt32.toUInt16.toUInt32.toInt32, p4.toUInt32.toUInt16.toUInt32.toInt32] : List Int32) := own_Str.of Ex17 Fv17 Fc17 Vb17 rfl rfl hp17 (by show 3 ≤ 4000; decide)
      obtain ⟨fs, hr, hrun, hended, hW, hsame⟩ := X17.leave (v := some (.ref o12)) (fun h => by rw [Bd.returns] at h; cases h)
      refine ⟨_, _, ?_, hrun, hended, _, _, rfl, ?_, ⟨_, rfl⟩, hW, hsame.mono (by decide) (by decide)⟩
      · show Steps p.tables e below (s₁.setTop (mkF m 22 #[.val (.int p1), .val (.int p2), .val (.int p3), .val (.int p4)] [(.int (2 : Int32)), (.int p1)])) _
        refine XS.icmpYes X0.here hx rfl (pc0 := 22) (pc' := 44) rfl (hb hby d2_22) rfl (feq h6).2 (by decide) (by decide) ?_
        show Steps p.tables e below (s₁.setTop (mkF m 44 #[.val (.int p1), .val (.int p2), .val (.int p3), .val (.int p4)] [])) _
        refine st12 _ ?_
        show Steps p.tables e below (T12.setTop (mkF m 47 #[.val (.int p1), .val (.int p2), .val (.int p3), .val (.int p4)] [(.ref o12)])) _
        refine XS.dup X12.here hx rfl (hb hby d2_47) rfl rfl ?_
        show Steps p.tables e below (T12.setTop (mkF m 48 #[.val (.int p1), .val (.int p2), .val (.int p3), .val (.int p4)] [(.ref o12), (.ref o12)])) _
        refine XS.iconst X12.here hx rfl (hb hby d2_48) ?_
        show Steps p.tables e below (T12.setTop (mkF m 49 #[.val (.int p1), .val (.int p2), .val (.int p3), .val (.int p4)] [(.int (3 : Int32)), (.ref o12), (.ref o12)])) _
        refine st13 _ ?_
        show Steps p.tables e below (T13.setTop (mkF m 51 #[.val (.int p1), .val (.int p2), .val (.int p3), .val (.int p4)] [(.ref o13), (.ref o12), (.ref o12)])) _
        refine XS.dup X13.here hx rfl (hb hby d2_51) rfl rfl ?_
        show Steps p.tables e below (T13.setTop (mkF m 52 #[.val (.int p1), .val (.int p2), .val (.int p3), .val (.int p4)] [(.ref o13), (.ref o13), (.ref o12), (.ref o12)])) _
        refine XS.iconst X13.here hx rfl (hb hby d2_52) ?_
        show Steps p.tables e below (T13.setTop (mkF m 53 #[.val (.int p1), .val (.int p2), .val (.int p3), .val (.int p4)] [(.int (0 : Int32)), (.ref o13), (.ref o13), (.ref o12), (.ref o12)])) _
        refine XS.iloadN X13.here hx rfl (hb hby d2_53) rfl ?_
        show Steps p.tables e below (T13.setTop (mkF m 54 #[.val (.int p1), .val (.int p2), .val (.int p3), .val (.int p4)] [(.int p2), (.int (0 : Int32)), (.ref o13), (.ref o13), (.ref o12), (.ref o12)])) _
        refine st14 _ ?_
        show Steps p.tables e below (T14.setTop (mkF m 55 #[.val (.int p1), .val (.int p2), .val (.int p3), .val (.int p4)] [(.ref o13), (.ref o12), (.ref o12)])) _
        refine XS.dup X14.here hx rfl (hb hby d2_55) rfl rfl ?_
        show Steps p.tables e below (T14.setTop (mkF m 56 #[.val (.int p1), .val (.int p2), .val (.int p3), .val (.int p4)] [(.ref o13), (.ref o13), (.ref o12), (.ref o12)])) _
        refine XS.iconst X14.here hx rfl (hb hby d2_56) ?_
        show Steps p.tables e below (T14.setTop (mkF m 57 #[.val (.int p1), .val (.int p2), .val (.int p3), .val (.int p4)] [(.int (1 : Int32)), (.ref o13), (.ref o13), (.ref o12), (.ref o12)])) _
        refine XS.iloadN X14.here hx rfl (hb hby d2_57) rfl ?_
        show Steps p.tables e below (T14.setTop (mkF m 58 #[.val (.int p1), .val (.int p2), .val (.int p3), .val (.int p4)] [(.int p3), (.int (1 : Int32)), (.ref o13), (.ref o13), (.ref o12), (.ref o12)])) _
        refine st15 _ ?_
        show Steps p.tables e below (T15.setTop (mkF m 59 #[.val (.int p1), .val (.int p2), .val (.int p3), .val (.int p4)] [(.ref o13), (.ref o12), (.ref o12)])) _
        refine XS.dup X15.here hx rfl (hb hby d2_59) rfl rfl ?_
        show Steps p.tables e below (T15.setTop (mkF m 60 #[.val (.int p1), .val (.int p2), .val (.int p3), .val (.int p4)] [(.ref o13), (.ref o13), (.ref o12), (.ref o12)])) _
        refine XS.iconst X15.here hx rfl (hb hby d2_60) ?_
        show Steps p.tables e below (T15.setTop (mkF m 61 #[.val (.int p1), .val (.int p2), .val (.int p3), .val (.int p4)] [(.int (2 : Int32)), (.ref o13), (.ref o13), (.ref o12), (.ref o12)])) _
        refine XS.iloadN X15.here hx rfl (hb hby d2_61) rfl ?_
        show Steps p.tables e below (T15.setTop (mkF m 62 #[.val (.int p1), .val (.int p2), .val (.int p3), .val (.int p4)] [(.int p4), (.int (2 : Int32)), (.ref o13), (.ref o13), (.ref o12), (.ref o12)])) _
        refine st16 _ ?_
        show Steps p.tables e below (T16.setTop (mkF m 63 #[.val (.int p1), .val (.int p2), .val (.int p3), .val (.int p4)] [(.ref o13), (.ref o12), (.ref o12)])) _
        refine st17.trans ?_
        show Steps p.tables e below (T17.setTop (mkF m 66 #[.val (.int p1), .val (.int p2), .val (.int p3), .val (.int p4)] [(.ref o12)])) _
        jvm_step X17.here [X17.here.top, hx, (hb hby d2_66), X17.method', Bd.returns, Value.isRef, FieldType.isReference]
        first | (intro acts; rw [hr _ acts rfl rfl rfl]) | rw [hr _ _ rfl rfl rfl]
        exact Steps.refl _
      · show Qmk Z p1 p2 p3 p4 cz h0 n0 _ T17.heap _
        have hx1 : fmk_x0 p1 p2 p3 p4 cz = ([p2.toUInt32.toUInt16.toUInt32.toInt32, p3.toUInt32.toUInt16.toUInt32.toInt32, p4.toUInt32.toUInt16.toUInt32.toInt32] : List Int32) := by simp only [fmk_x0, if_neg h1, if_neg h6]
        exact ⟨o12, rfl, N17, K17, sz12, Ex17, (by rw [hx1]; exact T_17)⟩
theorem d9_0 : decode prog_11_method_1_code 0 = .ok (.aload_n 0, 1) := by decide +kernel
theorem d9_1 : decode prog_11_method_1_code 1 = .ok (.invokespecial 1, 3) := by decide +kernel
theorem d9_4 : decode prog_11_method_1_code 4 = .ok (.aload_n 1, 1) := by decide +kernel
theorem d9_5 : decode prog_11_method_1_code 5 = .ok (.ldc 7, 2) := by decide +kernel
theorem d9_7 : decode prog_11_method_1_code 7 = .ok (.invokestatic 9, 3) := by decide +kernel
theorem d9_10 : decode prog_11_method_1_code 10 = .ok (.pop, 1) := by decide +kernel
theorem d9_11 : decode prog_11_method_1_code 11 = .ok (.aload_n 0, 1) := by decide +kernel
theorem d9_12 : decode prog_11_method_1_code 12 = .ok (.aload_n 1, 1) := by decide +kernel
theorem d9_13 : decode prog_11_method_1_code 13 = .ok (.sipush 255, 3) := by decide +kernel
theorem d9_16 : decode prog_11_method_1_code 16 = .ok (.ldc 17, 2) := by decide +kernel
theorem d9_18 : decode prog_11_method_1_code 18 = .ok (.invokestatic 19, 3) := by decide +kernel
theorem d9_21 : decode prog_11_method_1_code 21 = .ok (.putfield 25, 3) := by decide +kernel
theorem d9_24 : decode prog_11_method_1_code 24 = .ok (.return_, 1) := by decide +kernel
theorem pn_ini : plainName "com/example/hitotabi/hitotabi/IdempotencyKey" = true := by first | (simp [plainName, overriddenIn]; done) | decide +kernel
theorem ef_ini (m : MethodId) (a1 : Addr) (a2 : Addr) : entryFrame m #[(.ref a1), (.ref a2)] 2 = mkF m 0 #[.val (.ref a1), .val (.ref a2)] [] := by first | (simp [entryFrame, mkF, argsToLocals, Value.category]; done) | rfl
def Qini (Z : State) (a1 : Addr) (a2 : Addr) (cs : List Int32) (cz : Int32) (sf : Value) (h0 : Heap) (n0 : Nat) (v : Option Value) (h : Heap) (L : List Loc) : Prop := v = none ∧ Fr n0 L ∧ Keep h0 h [a1] ∧ (Exa Z h a1 "com/example/hitotabi/hitotabi/IdempotencyKey") ∧ (Fld Z h a1 "com/example/hitotabi/hitotabi/IdempotencyKey" "value" "Ljava/lang/String;" (.ref a2))
set_option maxRecDepth 65536 in
set_option maxHeartbeats 40000000 in
theorem rmini (l : Launch) (Z : State) (a0 : Array Value) (hw : ∀ d ∈ tables_1, d.before a0 Z = true) (ws : List Jvm.Cond) (a1 : Addr) (a2 : Addr) (cs : List Int32) (cz : Int32) (sf : Value) (h0 : Heap) (n0 : Nat) (Z0 : n0 ≤ h0.size) (OLD : Old Z n0 h0) (G_a1 : n0 ≤ a1) (E_a1 : Exa Z h0 a1 "com/example/hitotabi/hitotabi/IdempotencyKey") (F_a1_value : Fld Z h0 a1 "com/example/hitotabi/hitotabi/IdempotencyKey" "value" "Ljava/lang/String;" .null) (T_a2 : own_Str Z h0 a2 cs) (hok : own_ok cs) (hCS : Sta Z Z.heap "java/lang/String" "COMPACT_STRINGS" "Z" (.int cz)) (hcz : ¬ cz = 0) (hSF : Sta Z Z.heap "jdk/internal/util/Preconditions" "SIOOBE_FORMATTER" "Ljava/util/function/BiFunction;" sf) (hsf : sf = .null ∨ ∃ g, sf = .ref g) :
    MetFree l (⟨"com/example/hitotabi/hitotabi/IdempotencyKey", "<init>", "(Ljava/lang/String;)V"⟩ : MethodName) (head1 (Jvm.Cond.code (⟨"com/example/hitotabi/hitotabi/IdempotencyKey", "<init>", "(Ljava/lang/String;)V"⟩ : MethodName) prog_11_method_1_code 2 none :: ws) ({ frames := 4, cells := 4, slots := 88, locals := 58 } : Room)) (fun a U => a = #[(.ref a1), (.ref a2)] ∧ Z.Warmed39 U.vm ∧ U.heap = h0) (fun _ _ _ _ _ => True) (fun _ U o U' => ∃ v L, o = .returned v ∧ Qini Z a1 a2 cs cz sf h0 n0 v U'.heap L ∧ ReturnedEndW U o U' L ({ frames := 4, cells := 4, slots := 88, locals := 58 } : Room).cells ({ frames := 4, cells := 4, slots := 88, locals := 58 } : Room).slots) := by
  refine MetFree.of_bodySF (plainFor_of_name pn_ini) hisR ?_
  intro p e s m args below meth c s₁ Bd hml0 hP hK
  obtain ⟨rfl, hZ0, hh⟩ := hP
  have hZ : Z.Warmed39 (s.setVm s.vm).vm := hZ0
  have hx := Bd.exec
  have hby := Bd.bytes
  have hml : c.maxLocals = 2 := hml0
  have hown : (s.setVm s.vm).vm.findClass "com/example/hitotabi/hitotabi/IdempotencyKey" = some m.cls := findClass_of_methodNamed Bd.named
  have hnm := (name_of_methodNamed Bd.named Bd.method).1
  have X0 : Stand p l e ({ frames := 4, cells := 4, slots := 88, locals := 58 } : Room) (s.setVm s.vm) m #[(.ref a1), (.ref a2)] below meth c s₁ [] 0 0 := Stand.of_body Bd
  have e0 : s₁.heap = h0 := by rw [← hh, Bd.state]; rfl
  have N0 := Fr.nil n0
  have pre0 : ∀ t, Steps p.tables e below (s₁.setTop (mkF m 0 #[.val (.ref a1), .val (.ref a2)] [])) t → Steps p.tables e below (s₁.setTop (entryFrame m #[(.ref a1), (.ref a2)] 2)) t := fun t k => castTop (ef_ini m a1 a2) k
  refine own_step (Q := fun o U' => ∃ v L, o = .returned v ∧ Qini Z a1 a2 cs cz sf h0 n0 v U'.heap L ∧ ReturnedEndW s o U' L ({ frames := 4, cells := 4, slots := 88, locals := 58 } : Room).cells ({ frames := 4, cells := 4, slots := 88, locals := 58 } : Room).slots) pre0 ?_
  have K0 : Keep h0 h0 [a1] := Keep.refl h0 [a1]
  have hS0 : s.Since s.vm s.heap.size := (State.WarmedH.refl s).since _
  have hk0 : s.heap.size ≤ h0.size := Nat.le_of_eq (by rw [hh])
  obtain ⟨T1, X1, e1, st1⟩ := initO X0 hx hZ hown (hw _ (List.mem_of_getElem? (i := 43) rfl)) (hw _ (List.mem_of_getElem? (i := 22) rfl)) (hw _ (List.mem_of_getElem? (i := 23) rfl)) e0 (g := (mkF m 1 #[.val (.ref a1), .val (.ref a2)] [(.ref a1)])) rfl (by rw [hml]; rfl) rfl (hb hby d9_1) (by decide) (W := 0) (by show 2 * 0 + _ ≤ _; exact Nat.le_of_eq rfl) (by decide)
  refine own_step (B := T1.setTop (mkF m 5 #[.val (.ref a1), .val (.ref a2)] [(.ref a2)])) (fun t k => ?_) ?_
  · show Steps p.tables e below (s₁.setTop (mkF m 0 #[.val (.ref a1), .val (.ref a2)] [])) _
    refine XS.aloadN X0.here hx rfl (hb hby d9_0) rfl rfl ?_
    show Steps p.tables e below (s₁.setTop (mkF m 1 #[.val (.ref a1), .val (.ref a2)] [(.ref a1)])) _
    refine st1 _ ?_
    show Steps p.tables e below (T1.setTop (mkF m 4 #[.val (.ref a1), .val (.ref a2)] [])) _
    refine XS.aloadN X1.here hx rfl (hb hby d9_4) rfl rfl ?_
    exact k
  obtain ⟨lit2, T2, h2, kn2, X2, e2, E2, hS2, hk2, hZ, hown, st2⟩ := ldcS X1 hx hZ hown (hw _ (List.mem_of_getElem? (i := 44) rfl)) (own_wS hw) e1 hS0 hk0 (g := (mkF m 5 #[.val (.ref a1), .val (.ref a2)] [(.ref a2)])) rfl (hb hby d9_5) (n := 20) (by decide) (by decide) (by decide) (by decide)
  have u2_0 := E_a1.ext E2
  have u2_1 := F_a1_value.ext E2
  have u2_2 := T_a2.ext E2
  have u2_3 := (own_Str.exa T_a2).ext E2
  have Z2 : n0 ≤ h2.size := Nat.le_trans Z0 E2.1
  have K2 := K0.ext E2
  have OL2 := OLD.ext E2
  obtain ⟨_, _, ⟨T3, L3, k3, n3⟩, -, X3, ⟨Lc3, hQ3, l3, y3, z3⟩, st3⟩ := Jvm.LawKit.callS X2 hx (y := (⟨"java/util/Objects", "requireNonNull", "(Ljava/lang/Object;Ljava/lang/String;)Ljava/lang/Object;"⟩ : MethodName)) hown (mvT hZ (hw _ (List.mem_of_getElem? (i := 47) rfl))) (mvT hZ (hw _ (List.mem_of_getElem? (i := 48) rfl))) (mvT hZ (hw _ (List.mem_of_getElem? (i := 49) rfl))) (mvT hZ (hw _ (List.mem_of_getElem? (i := 50) rfl))) (by decide) (backOf (W := 0) (rmrnn l Z a0 hw [] a2 lit2 h2 n0 Z2) hZ (hw _ (List.mem_of_getElem? (i := 50) rfl)) (hw _ (List.mem_of_getElem? (i := 49) rfl)) (by decide) (by decide)) (g := (mkF m 7 #[.val (.ref a1), .val (.ref a2)] [(.ref lit2), (.ref a2)])) rfl (by rw [hml]; rfl) (argsL := [(.ref a2), (.ref lit2)]) (rest := []) (lenOf pd_6 rfl) rfl (by show 2 * 0 + _ ≤ _; exact Nat.le_of_eq rfl) (hb hby d9_7) (fun _ _ => ⟨rfl, e2, (by decide : 2 + 0 ≤ _), (by decide : 24 + 0 ≤ _)⟩)
  dsimp only [Pt.U, Pt.locs, Pt.cells, Pt.slots] at X3 l3 y3 z3 st3 hQ3
  subst l3 y3 z3
  obtain ⟨rfl, N3q, e3⟩ := hQ3
  have N3 := Fr.app N0 N3q
  refine own_step (B := T3.setTop (mkF m 16 #[.val (.ref a1), .val (.ref a2)] [(.int (255 : Int32)), (.ref a2), (.ref a1)])) (fun t k => ?_) ?_
  · show Steps p.tables e below (T1.setTop (mkF m 5 #[.val (.ref a1), .val (.ref a2)] [(.ref a2)])) _
    refine st2 _ ?_
    show Steps p.tables e below (T2.setTop (mkF m 7 #[.val (.ref a1), .val (.ref a2)] [(.ref lit2), (.ref a2)])) _
    refine st3 _ ?_
    show Steps p.tables e below (T3.setTop (mkF m 10 #[.val (.ref a1), .val (.ref a2)] [(.ref a2)])) _
    refine XT.pop X3.here hx rfl (hb hby d9_10) rfl rfl ?_
    show Steps p.tables e below (T3.setTop (mkF m 11 #[.val (.ref a1), .val (.ref a2)] [])) _
    refine XS.aloadN X3.here hx rfl (hb hby d9_11) rfl rfl ?_
    show Steps p.tables e below (T3.setTop (mkF m 12 #[.val (.ref a1), .val (.ref a2)] [(.ref a1)])) _
    refine XS.aloadN X3.here hx rfl (hb hby d9_12) rfl rfl ?_
    show Steps p.tables e below (T3.setTop (mkF m 13 #[.val (.ref a1), .val (.ref a2)] [(.ref a2), (.ref a1)])) _
    refine XS.sipush X3.here hx rfl (hb hby d9_13) ?_
    exact k
  obtain ⟨lit4, T4, h4, kn4, X4, e4, E4, hS4, hk4, hZ, hown, st4⟩ := ldcS X3 hx hZ hown (hw _ (List.mem_of_getElem? (i := 51) rfl)) (own_wS hw) e3 hS2 hk2 (g := (mkF m 16 #[.val (.ref a1), .val (.ref a2)] [(.int (255 : Int32)), (.ref a2), (.ref a1)])) rfl (hb hby d9_16) (n := 60) (by decide) (by decide) (by decide) (by decide)
  have u4_0 := u2_0.ext E4
  have u4_1 := u2_1.ext E4
  have u4_2 := u2_2.ext E4
  have u4_3 := u2_3.ext E4
  have Z4 : n0 ≤ h4.size := Nat.le_trans Z2 E4.1
  have K4 := K2.ext E4
  have OL4 := OL2.ext E4
  obtain ⟨_, _, ⟨T5, L5, k5, n5⟩, -, X5, ⟨Lc5, hQ5, l5, y5, z5⟩, st5⟩ := Jvm.LawKit.callS X4 hx (y := (⟨"com/example/hitotabi/hitotabi/PrintableAscii", "require", "(Ljava/lang/String;ILjava/lang/String;)Ljava/lang/String;"⟩ : MethodName)) hown (mvT hZ (hw _ (List.mem_of_getElem? (i := 52) rfl))) (mvT hZ (hw _ (List.mem_of_getElem? (i := 53) rfl))) (mvT hZ (hw _ (List.mem_of_getElem? (i := 54) rfl))) (mvT hZ (hw _ (List.mem_of_getElem? (i := 55) rfl))) (by decide) (backOf (W := 1) (rmrq l Z a0 hw [] a2 lit4 cs cz sf h4 n0 Z4 OL4 u4_2 hok hCS hcz hSF hsf) hZ (hw _ (List.mem_of_getElem? (i := 55) rfl)) (hw _ (List.mem_of_getElem? (i := 54) rfl)) (by decide) (by decide)) (g := (mkF m 18 #[.val (.ref a1), .val (.ref a2)] [(.ref lit4), (.int (255 : Int32)), (.ref a2), (.ref a1)])) rfl (by rw [hml]; rfl) (argsL := [(.ref a2), (.int (255 : Int32)), (.ref lit4)]) (rest := [(.ref a1)]) (lenOf pd_7 rfl) rfl (by show 2 * 0 + _ ≤ _; exact Nat.le_of_eq rfl) (hb hby d9_18) (fun _ _ => ⟨rfl, e4, (by decide : 4 + 0 ≤ _), (by decide : 88 + 0 ≤ _)⟩)
  dsimp only [Pt.U, Pt.locs, Pt.cells, Pt.slots] at X5 l5 y5 z5 st5 hQ5
  subst l5 y5 z5
  obtain ⟨rfl, N5q, e5⟩ := hQ5
  have N5 := Fr.app N3 N5q
  obtain ⟨T6, h6, X6, e6, W6, st6⟩ := putF X5 hx hZ hown (host := "") (Or.inl (hw _ (List.mem_of_getElem? (i := 89) rfl))) Via.refl e5 u4_1 u4_0 (Or.inr ⟨(hw _ (List.mem_of_getElem? (i := 90) rfl)), rfl, hnm⟩) (hw _ (List.mem_of_getElem? (i := 5) rfl)) (ty := (.object "java/lang/String")) (by decide) rfl rfl (g := (mkF m 21 #[.val (.ref a1), .val (.ref a2)] [(.ref a2), (.ref a1)])) rfl rfl (hb hby d9_21)
  have u6_0 := u4_0.wr W6
  have u6_1 := u4_1.same W6
  have u6_3 := u4_3.wr W6
  have K6 := K4.wr W6 (Or.inl (List.mem_of_getElem? (i := 0) rfl))
  have Z6 : n0 ≤ h6.size := Nat.le_trans Z4 (Keep.of_wr W6).1
  have hg6 := Nat.le_trans hk4 (Keep.of_wr W6).1
  have N6 := Fr.snoc X6 N5 G_a1
  have OL6 := OL4.wr W6 G_a1
  obtain ⟨fs, hr, hrun, hended, hREW⟩ := X6.leaveW hS4 (by rw [e6]; exact hg6) (v := none) (fun _ => rfl)
  refine ⟨_, _, ?_, hrun, hended, _, _, rfl, ?_, hREW.1, hREW.2.1, hREW.2.2.1, hREW.2.2.2.mono (by decide) (by decide)⟩
  · show Steps p.tables e below (T3.setTop (mkF m 16 #[.val (.ref a1), .val (.ref a2)] [(.int (255 : Int32)), (.ref a2), (.ref a1)])) _
    refine st4 _ ?_
    show Steps p.tables e below (T4.setTop (mkF m 18 #[.val (.ref a1), .val (.ref a2)] [(.ref lit4), (.int (255 : Int32)), (.ref a2), (.ref a1)])) _
    refine st5 _ ?_
    show Steps p.tables e below (T5.setTop (mkF m 21 #[.val (.ref a1), .val (.ref a2)] [(.ref a2), (.ref a1)])) _
    refine st6 _ ?_
    show Steps p.tables e below (T6.setTop (mkF m 24 #[.val (.ref a1), .val (.ref a2)] [])) _
    exact X6.returnOut hx Bd.returns (hb hby d9_24) hr
  · show Qini Z a1 a2 cs cz sf h0 n0 _ T6.heap _
    rw [e6]
    exact ⟨rfl, N6, K6, u6_0, u6_1⟩
theorem d19_0 : decode prog_11_method_3_code 0 = .ok (.aload_n 1, 1) := by decide +kernel
theorem d19_1 : decode prog_11_method_3_code 1 = .ok (.instanceof 15, 3) := by decide +kernel
theorem d19_4 : decode prog_11_method_3_code 4 = .ok (.ifCond .eq 24, 3) := by decide +kernel
theorem d19_7 : decode prog_11_method_3_code 7 = .ok (.aload_n 0, 1) := by decide +kernel
theorem d19_8 : decode prog_11_method_3_code 8 = .ok (.getfield 25, 3) := by decide +kernel
theorem d19_11 : decode prog_11_method_3_code 11 = .ok (.aload_n 1, 1) := by decide +kernel
theorem d19_12 : decode prog_11_method_3_code 12 = .ok (.checkcast 15, 3) := by decide +kernel
theorem d19_15 : decode prog_11_method_3_code 15 = .ok (.getfield 25, 3) := by decide +kernel
theorem d19_18 : decode prog_11_method_3_code 18 = .ok (.invokevirtual 28, 3) := by decide +kernel
theorem d19_21 : decode prog_11_method_3_code 21 = .ok (.ifCond .eq 7, 3) := by decide +kernel
theorem d19_24 : decode prog_11_method_3_code 24 = .ok (.iconst 1, 1) := by decide +kernel
theorem d19_25 : decode prog_11_method_3_code 25 = .ok (.goto 4, 3) := by decide +kernel
theorem d19_28 : decode prog_11_method_3_code 28 = .ok (.iconst 0, 1) := by decide +kernel
theorem d19_29 : decode prog_11_method_3_code 29 = .ok (.ireturn, 1) := by decide +kernel
theorem pn_eqk : plainName "com/example/hitotabi/hitotabi/IdempotencyKey" = true := by first | (simp [plainName, overriddenIn]; done) | decide +kernel
theorem ef_eqk (m : MethodId) (a1 : Addr) (a2 : Addr) : entryFrame m #[(.ref a1), (.ref a2)] 2 = mkF m 0 #[.val (.ref a1), .val (.ref a2)] [] := by first | (simp [entryFrame, mkF, argsToLocals, Value.category]; done) | rfl
def Qeqk (Z : State) (a1 : Addr) (a2 : Addr) (b1 : Addr) (b2 : Addr) (cs : List Int32) (ds : List Int32) (cz : Int32) (h0 : Heap) (n0 : Nat) (v : Option Value) (h : Heap) (L : List Loc) : Prop := v = some (.int (feqk cs ds cz)) ∧ Fr n0 L ∧ h = h0
set_option maxRecDepth 65536 in
set_option maxHeartbeats 40000000 in
theorem rmeqk (l : Launch) (Z : State) (a0 : Array Value) (hw : ∀ d ∈ tables_1, d.before a0 Z = true) (ws : List Jvm.Cond) (a1 : Addr) (a2 : Addr) (b1 : Addr) (b2 : Addr) (cs : List Int32) (ds : List Int32) (cz : Int32) (h0 : Heap) (n0 : Nat) (Z0 : n0 ≤ h0.size) (OLD : Old Z n0 h0) (E_a1 : Exa Z h0 a1 "com/example/hitotabi/hitotabi/IdempotencyKey") (E_a2 : Exa Z h0 a2 "com/example/hitotabi/hitotabi/IdempotencyKey") (F_a1_value : Fld Z h0 a1 "com/example/hitotabi/hitotabi/IdempotencyKey" "value" "Ljava/lang/String;" (.ref b1)) (F_a2_value : Fld Z h0 a2 "com/example/hitotabi/hitotabi/IdempotencyKey" "value" "Ljava/lang/String;" (.ref b2)) (T_b1 : own_Str Z h0 b1 cs) (T_b2 : own_Str Z h0 b2 ds) (hCS : Sta Z Z.heap "java/lang/String" "COMPACT_STRINGS" "Z" (.int cz)) (hcz : ¬ cz = 0) :
    MetFree l (⟨"com/example/hitotabi/hitotabi/IdempotencyKey", "equals", "(Ljava/lang/Object;)Z"⟩ : MethodName) (head1 (Jvm.Cond.code (⟨"com/example/hitotabi/hitotabi/IdempotencyKey", "equals", "(Ljava/lang/Object;)Z"⟩ : MethodName) prog_11_method_3_code 2 (some .boolean) :: ws) ({ frames := 2, cells := 0, slots := 0, locals := 28 } : Room)) (fun a U => a = #[(.ref a1), (.ref a2)] ∧ Z.Warmed39 U.vm ∧ U.heap = h0) (fun _ _ _ _ _ => True) (fun _ U o U' => ∃ v L, o = .returned v ∧ Qeqk Z a1 a2 b1 b2 cs ds cz h0 n0 v U'.heap L ∧ FrameEnd U o U' L ({ frames := 2, cells := 0, slots := 0, locals := 28 } : Room).cells ({ frames := 2, cells := 0, slots := 0, locals := 28 } : Room).slots) := by
  refine MetFree.of_bodySF (plainFor_of_name pn_eqk) hisR ?_
  intro p e s m args below meth c s₁ Bd hml0 hP hK
  obtain ⟨rfl, hZ, hh⟩ := hP
  have hx := Bd.exec
  have hby := Bd.bytes
  have hml : c.maxLocals = 2 := hml0
  have hown : s.vm.findClass "com/example/hitotabi/hitotabi/IdempotencyKey" = some m.cls := findClass_of_methodNamed Bd.named
  have hnm := (name_of_methodNamed Bd.named Bd.method).1
  have X0 : Stand p l e ({ frames := 2, cells := 0, slots := 0, locals := 28 } : Room) s m #[(.ref a1), (.ref a2)] below meth c s₁ [] 0 0 := Stand.of_body Bd
  have e0 : s₁.heap = h0 := by rw [← hh, Bd.state]; rfl
  have N0 := Fr.nil n0
  have pre0 : ∀ t, Steps p.tables e below (s₁.setTop (mkF m 0 #[.val (.ref a1), .val (.ref a2)] [])) t → Steps p.tables e below (s₁.setTop (entryFrame m #[(.ref a1), (.ref a2)] 2)) t := fun t k => castTop (ef_eqk m a1 a2) k
  refine own_step (Q := fun o U' => ∃ v L, o = .returned v ∧ Qeqk Z a1 a2 b1 b2 cs ds cz h0 n0 v U'.heap L ∧ FrameEnd s o U' L ({ frames := 2, cells := 0, slots := 0, locals := 28 } : Room).cells ({ frames := 2, cells := 0, slots := 0, locals := 28 } : Room).slots) pre0 ?_
  obtain ⟨T1, X1, e1, st1⟩ := instY X0 hx hZ hown (hw _ (List.mem_of_getElem? (i := 96) rfl)) e0 (Ins.self E_a2) (g := (mkF m 1 #[.val (.ref a1), .val (.ref a2)] [(.ref a2)])) rfl rfl (hb hby d19_1)
  have h2 : ¬ ((1 : Int32) = (0 : Int32)) := by decide
  obtain ⟨T3, X3, e3, st3⟩ := getF X1 hx hZ hown (host := "") (Or.inl (hw _ (List.mem_of_getElem? (i := 89) rfl))) Via.refl e1 F_a1_value (g := (mkF m 8 #[.val (.ref a1), .val (.ref a2)] [(.ref a1)])) rfl rfl (hb hby d19_8)
  obtain ⟨T4, X4, e4, st4⟩ := castY X3 hx hZ hown (hw _ (List.mem_of_getElem? (i := 96) rfl)) e3 (Ins.self E_a2) (g := (mkF m 12 #[.val (.ref a1), .val (.ref a2)] [(.ref a2), (.ref b1)])) rfl rfl (hb hby d19_12)
  obtain ⟨T5, X5, e5, st5⟩ := getF X4 hx hZ hown (host := "") (Or.inl (hw _ (List.mem_of_getElem? (i := 89) rfl))) Via.refl e4 F_a2_value (g := (mkF m 15 #[.val (.ref a1), .val (.ref a2)] [(.ref a2), (.ref b1)])) rfl rfl (hb hby d19_15)
  obtain ⟨ta6, ka6, na6, va6, xa6, fa6, ga6, ra6, da6, ba6, la6⟩ := id T_b1
  obtain ⟨tb6, kb6, nb6, vb6, xb6, fb6, gb6, rb6, db6, bb6, lb6⟩ := id T_b2
  obtain ⟨cq6, kq6, q6a, q6b, q6c⟩ := isOf hZ e5 xa6
  obtain ⟨_, _, ⟨T6, L6, k6, n6⟩, -, X6, ⟨Lc6, hQ6, l6, y6, z6⟩, st6⟩ := X5.virtualBack hx (y := (⟨"java/lang/String", "equals", "(Ljava/lang/Object;)Z"⟩ : MethodName)) (z := (⟨"java/lang/String", "equals", "(Ljava/lang/Object;)Z"⟩ : MethodName)) hown (mvT hZ (hw _ (List.mem_of_getElem? (i := 98) rfl))) (mvT hZ (hw _ (List.mem_of_getElem? (i := 99) rfl))) (notFace_of_selects (args := #[]) (mvT hZ (hw _ (List.mem_of_getElem? (i := 101) rfl)))) (mvT hZ (hw _ (List.mem_of_getElem? (i := 101) rfl))) (mvT hZ (hw _ (List.mem_of_getElem? (i := 100) rfl))) (by decide) (StrChars.Road.eqW (W := 0) hZ (own_wEq hw) (kI := 4) (hw _ (List.mem_of_getElem? (i := 11) rfl)) xa6 fa6 ga6 ra6 da6 ba6 la6 xb6 fb6 gb6 rb6 db6 bb6 lb6 (Sta.ext OLD.2 hCS) hcz (by decide) (by decide)) q6a q6c (g := (mkF m 18 #[.val (.ref a1), .val (.ref a2)] [(.ref b2), (.ref b1)])) rfl (by rw [hml]; rfl) (Steps.refl _) (argsL := [(.ref b2)]) (rest := []) (lenOf pd_8 rfl) rfl (by show 2 * 0 + _ ≤ _; exact Nat.le_of_eq rfl) (hb hby d19_18) (fun _ _ => ⟨rfl, e5, (by decide : 0 + 0 ≤ _), (by decide : 0 + 0 ≤ _)⟩)
  dsimp only [Pt.U, Pt.locs, Pt.cells, Pt.slots] at X6 l6 y6 z6 st6 hQ6
  subst l6 y6 z6
  obtain ⟨hv6, rfl, e6⟩ := hQ6
  obtain rfl := own_eqv hv6
  have N6 := Fr.app N0 (Fr.nil n0)
  have st8 : ∀ t, Steps p.tables e below (T6.setTop (mkF m 29 #[.val (.ref a1), .val (.ref a2)] [(.int (feqk_0 cs ds cz))])) t → Steps p.tables e below (T6.setTop (mkF m 21 #[.val (.ref a1), .val (.ref a2)] [(.int (own_eq cs ds))])) t := by
    intro t k
    by_cases h7 : (own_eq cs ds) = (0 : Int32)
    · rw [show (feqk_0 cs ds cz) = (0 : Int32) from if_pos h7] at k
      show Steps p.tables e below (T6.setTop (mkF m 21 #[.val (.ref a1), .val (.ref a2)] [(.int (own_eq cs ds))])) _
      refine XS.ifYes X6.here hx rfl (pc0 := 21) (pc' := 28) rfl (hb hby d19_21) rfl ((if0 _ _).trans (teq h7).1) (by decide) (by decide) ?_
      show Steps p.tables e below (T6.setTop (mkF m 28 #[.val (.ref a1), .val (.ref a2)] [])) _
      refine XS.iconst X6.here hx rfl (hb hby d19_28) ?_
      exact k
    · rw [show (feqk_0 cs ds cz) = (1 : Int32) from if_neg h7] at k
      show Steps p.tables e below (T6.setTop (mkF m 21 #[.val (.ref a1), .val (.ref a2)] [(.int (own_eq cs ds))])) _
      refine XS.ifNo X6.here hx rfl (hb hby d19_21) rfl ((if0 _ _).trans (feq h7).1) ?_
      show Steps p.tables e below (T6.setTop (mkF m 24 #[.val (.ref a1), .val (.ref a2)] [])) _
      refine XS.iconst X6.here hx rfl (hb hby d19_24) ?_
      show Steps p.tables e below (T6.setTop (mkF m 25 #[.val (.ref a1), .val (.ref a2)] [(.int (1 : Int32))])) _
      refine XS.goto X6.here hx rfl (pc0 := 25) (pc' := 29) rfl (hb hby d19_25) (by decide) (by decide) ?_
      exact k
  obtain ⟨fs, hr, hrun, hended, hW, hsame⟩ := X6.leave (v := some (.int ((feqk_0 cs ds cz) &&& 1))) (fun h => by rw [Bd.returns] at h; cases h)
  refine ⟨_, _, ?_, hrun, hended, _, _, rfl, ?_, ⟨_, rfl⟩, hW, hsame.mono (by decide) (by decide)⟩
  · show Steps p.tables e below (s₁.setTop (mkF m 0 #[.val (.ref a1), .val (.ref a2)] [])) _
    refine XS.aloadN X0.here hx rfl (hb hby d19_0) rfl rfl ?_
    show Steps p.tables e below (s₁.setTop (mkF m 1 #[.val (.ref a1), .val (.ref a2)] [(.ref a2)])) _
    refine st1 _ ?_
    show Steps p.tables e below (T1.setTop (mkF m 4 #[.val (.ref a1), .val (.ref a2)] [(.int (1 : Int32))])) _
    refine XS.ifNo X1.here hx rfl (hb hby d19_4) rfl ((if0 _ _).trans (feq h2).1) ?_
    show Steps p.tables e below (T1.setTop (mkF m 7 #[.val (.ref a1), .val (.ref a2)] [])) _
    refine XS.aloadN X1.here hx rfl (hb hby d19_7) rfl rfl ?_
    show Steps p.tables e below (T1.setTop (mkF m 8 #[.val (.ref a1), .val (.ref a2)] [(.ref a1)])) _
    refine st3 _ ?_
    show Steps p.tables e below (T3.setTop (mkF m 11 #[.val (.ref a1), .val (.ref a2)] [(.ref b1)])) _
    refine XS.aloadN X3.here hx rfl (hb hby d19_11) rfl rfl ?_
    show Steps p.tables e below (T3.setTop (mkF m 12 #[.val (.ref a1), .val (.ref a2)] [(.ref a2), (.ref b1)])) _
    refine st4 _ ?_
    show Steps p.tables e below (T4.setTop (mkF m 15 #[.val (.ref a1), .val (.ref a2)] [(.ref a2), (.ref b1)])) _
    refine st5 _ ?_
    show Steps p.tables e below (T5.setTop (mkF m 18 #[.val (.ref a1), .val (.ref a2)] [(.ref b2), (.ref b1)])) _
    refine st6.trans ?_
    show Steps p.tables e below (T6.setTop (mkF m 21 #[.val (.ref a1), .val (.ref a2)] [(.int (own_eq cs ds))])) _
    refine st8 _ ?_
    show Steps p.tables e below (T6.setTop (mkF m 29 #[.val (.ref a1), .val (.ref a2)] [(.int (feqk_0 cs ds cz))])) _
    exact retN X6 hx (t := .boolean) Bd.returns (by simp) (hb hby d19_29) hr
  · show Qeqk Z a1 a2 b1 b2 cs ds cz h0 n0 _ T6.heap _
    rw [e6]
    have hf : feqk cs ds cz = ((feqk_0 cs ds cz) &&& 1) := rfl
    exact ⟨by rw [hf], N6, rfl⟩
theorem pn_eqn : plainName "com/example/hitotabi/hitotabi/IdempotencyKey" = true := by first | (simp [plainName, overriddenIn]; done) | decide +kernel
theorem ef_eqn (m : MethodId) (a1 : Addr) : entryFrame m #[(.ref a1), .null] 2 = mkF m 0 #[.val (.ref a1), .val .null] [] := by first | (simp [entryFrame, mkF, argsToLocals, Value.category]; done) | rfl
def Qeqn (Z : State) (a1 : Addr) (h0 : Heap) (n0 : Nat) (v : Option Value) (h : Heap) (L : List Loc) : Prop := v = some (.int (feqn )) ∧ Fr n0 L ∧ h = h0
set_option maxRecDepth 65536 in
set_option maxHeartbeats 40000000 in
theorem rmeqn (l : Launch) (Z : State) (a0 : Array Value) (hw : ∀ d ∈ tables_1, d.before a0 Z = true) (ws : List Jvm.Cond) (a1 : Addr) (h0 : Heap) (n0 : Nat) (Z0 : n0 ≤ h0.size) :
    MetFree l (⟨"com/example/hitotabi/hitotabi/IdempotencyKey", "equals", "(Ljava/lang/Object;)Z"⟩ : MethodName) (head1 (Jvm.Cond.code (⟨"com/example/hitotabi/hitotabi/IdempotencyKey", "equals", "(Ljava/lang/Object;)Z"⟩ : MethodName) prog_11_method_3_code 2 (some .boolean) :: ws) ({ frames := 0, cells := 0, slots := 0, locals := 0 } : Room)) (fun a U => a = #[(.ref a1), .null] ∧ Z.Warmed39 U.vm ∧ U.heap = h0) (fun _ _ _ _ _ => True) (fun _ U o U' => ∃ v L, o = .returned v ∧ Qeqn Z a1 h0 n0 v U'.heap L ∧ FrameEnd U o U' L ({ frames := 0, cells := 0, slots := 0, locals := 0 } : Room).cells ({ frames := 0, cells := 0, slots := 0, locals := 0 } : Room).slots) := by
  refine MetFree.of_bodySF (plainFor_of_name pn_eqn) hisR ?_
  intro p e s m args below meth c s₁ Bd hml0 hP hK
  obtain ⟨rfl, hZ, hh⟩ := hP
  have hx := Bd.exec
  have hby := Bd.bytes
  have hml : c.maxLocals = 2 := hml0
  have hown : s.vm.findClass "com/example/hitotabi/hitotabi/IdempotencyKey" = some m.cls := findClass_of_methodNamed Bd.named
  have hnm := (name_of_methodNamed Bd.named Bd.method).1
  have X0 : Stand p l e ({ frames := 0, cells := 0, slots := 0, locals := 0 } : Room) s m #[(.ref a1), .null] below meth c s₁ [] 0 0 := Stand.of_body Bd
  have e0 : s₁.heap = h0 := by rw [← hh, Bd.state]; rfl
  have N0 := Fr.nil n0
  have pre0 : ∀ t, Steps p.tables e below (s₁.setTop (mkF m 0 #[.val (.ref a1), .val .null] [])) t → Steps p.tables e below (s₁.setTop (entryFrame m #[(.ref a1), .null] 2)) t := fun t k => castTop (ef_eqn m a1) k
  refine own_step (Q := fun o U' => ∃ v L, o = .returned v ∧ Qeqn Z a1 h0 n0 v U'.heap L ∧ FrameEnd s o U' L ({ frames := 0, cells := 0, slots := 0, locals := 0 } : Room).cells ({ frames := 0, cells := 0, slots := 0, locals := 0 } : Room).slots) pre0 ?_
  have h2 : (0 : Int32) = (0 : Int32) := by decide
  obtain ⟨fs, hr, hrun, hended, hW, hsame⟩ := X0.leave (v := some (.int (0 : Int32))) (fun h => by rw [Bd.returns] at h; cases h)
  refine ⟨_, _, ?_, hrun, hended, _, _, rfl, ?_, ⟨_, rfl⟩, hW, hsame.mono (by decide) (by decide)⟩
  · show Steps p.tables e below (s₁.setTop (mkF m 0 #[.val (.ref a1), .val .null] [])) _
    refine XS.aloadN X0.here hx rfl (hb hby d19_0) rfl rfl ?_
    show Steps p.tables e below (s₁.setTop (mkF m 1 #[.val (.ref a1), .val .null] [.null])) _
    refine X0.instanceofNull hx (g := (mkF m 1 #[.val (.ref a1), .val .null] [.null])) rfl rfl (hb hby d19_1) _ ?_
    show Steps p.tables e below (s₁.setTop (mkF m 4 #[.val (.ref a1), .val .null] [(.int (0 : Int32))])) _
    refine XS.ifYes X0.here hx rfl (pc0 := 4) (pc' := 28) rfl (hb hby d19_4) rfl ((if0 _ _).trans (teq h2).1) (by decide) (by decide) ?_
    show Steps p.tables e below (s₁.setTop (mkF m 28 #[.val (.ref a1), .val .null] [])) _
    refine XS.iconst X0.here hx rfl (hb hby d19_28) ?_
    show Steps p.tables e below (s₁.setTop (mkF m 29 #[.val (.ref a1), .val .null] [(.int (0 : Int32))])) _
    exact retN X0 hx (t := .boolean) Bd.returns (by simp) (hb hby d19_29) hr
  · show Qeqn Z a1 h0 n0 _ s₁.heap _
    rw [e0]
    have hf : feqn  = (0 : Int32) := rfl
    exact ⟨by rw [hf], N0, rfl⟩
theorem pn_eqs : plainName "com/example/hitotabi/hitotabi/IdempotencyKey" = true := by first | (simp [plainName, overriddenIn]; done) | decide +kernel
theorem ef_eqs (m : MethodId) (a1 : Addr) (a2 : Addr) : entryFrame m #[(.ref a1), (.ref a2)] 2 = mkF m 0 #[.val (.ref a1), .val (.ref a2)] [] := by first | (simp [entryFrame, mkF, argsToLocals, Value.category]; done) | rfl
def Qeqs (Z : State) (a1 : Addr) (a2 : Addr) (h0 : Heap) (n0 : Nat) (v : Option Value) (h : Heap) (L : List Loc) : Prop := v = some (.int (feqs )) ∧ Fr n0 L ∧ h = h0
set_option maxRecDepth 65536 in
set_option maxHeartbeats 40000000 in
theorem rmeqs (l : Launch) (Z : State) (a0 : Array Value) (hw : ∀ d ∈ tables_1, d.before a0 Z = true) (ws : List Jvm.Cond) (a1 : Addr) (a2 : Addr) (h0 : Heap) (n0 : Nat) (Z0 : n0 ≤ h0.size) (E_a2 : Exa Z h0 a2 "java/lang/String") :
    MetFree l (⟨"com/example/hitotabi/hitotabi/IdempotencyKey", "equals", "(Ljava/lang/Object;)Z"⟩ : MethodName) (head1 (Jvm.Cond.code (⟨"com/example/hitotabi/hitotabi/IdempotencyKey", "equals", "(Ljava/lang/Object;)Z"⟩ : MethodName) prog_11_method_3_code 2 (some .boolean) :: ws) ({ frames := 0, cells := 0, slots := 0, locals := 0 } : Room)) (fun a U => a = #[(.ref a1), (.ref a2)] ∧ Z.Warmed39 U.vm ∧ U.heap = h0) (fun _ _ _ _ _ => True) (fun _ U o U' => ∃ v L, o = .returned v ∧ Qeqs Z a1 a2 h0 n0 v U'.heap L ∧ FrameEnd U o U' L ({ frames := 0, cells := 0, slots := 0, locals := 0 } : Room).cells ({ frames := 0, cells := 0, slots := 0, locals := 0 } : Room).slots) := by
  refine MetFree.of_bodySF (plainFor_of_name pn_eqs) hisR ?_
  intro p e s m args below meth c s₁ Bd hml0 hP hK
  obtain ⟨rfl, hZ, hh⟩ := hP
  have hx := Bd.exec
  have hby := Bd.bytes
  have hml : c.maxLocals = 2 := hml0
  have hown : s.vm.findClass "com/example/hitotabi/hitotabi/IdempotencyKey" = some m.cls := findClass_of_methodNamed Bd.named
  have hnm := (name_of_methodNamed Bd.named Bd.method).1
  have X0 : Stand p l e ({ frames := 0, cells := 0, slots := 0, locals := 0 } : Room) s m #[(.ref a1), (.ref a2)] below meth c s₁ [] 0 0 := Stand.of_body Bd
  have e0 : s₁.heap = h0 := by rw [← hh, Bd.state]; rfl
  have N0 := Fr.nil n0
  have pre0 : ∀ t, Steps p.tables e below (s₁.setTop (mkF m 0 #[.val (.ref a1), .val (.ref a2)] [])) t → Steps p.tables e below (s₁.setTop (entryFrame m #[(.ref a1), (.ref a2)] 2)) t := fun t k => castTop (ef_eqs m a1 a2) k
  refine own_step (Q := fun o U' => ∃ v L, o = .returned v ∧ Qeqs Z a1 a2 h0 n0 v U'.heap L ∧ FrameEnd s o U' L ({ frames := 0, cells := 0, slots := 0, locals := 0 } : Room).cells ({ frames := 0, cells := 0, slots := 0, locals := 0 } : Room).slots) pre0 ?_
  obtain ⟨T1, X1, e1, st1⟩ := instNo X0 hx hZ hown (hw _ (List.mem_of_getElem? (i := 96) rfl)) e0 E_a2 (own_no (hw _ (List.mem_of_getElem? (i := 108) rfl)) (hw _ (List.mem_of_getElem? (i := 109) rfl)) (hw _ (List.mem_of_getElem? (i := 5) rfl)) (by decide) (by decide)) (g := (mkF m 1 #[.val (.ref a1), .val (.ref a2)] [(.ref a2)])) rfl rfl (hb hby d19_1)
  have h2 : (0 : Int32) = (0 : Int32) := by decide
  obtain ⟨fs, hr, hrun, hended, hW, hsame⟩ := X1.leave (v := some (.int (0 : Int32))) (fun h => by rw [Bd.returns] at h; cases h)
  refine ⟨_, _, ?_, hrun, hended, _, _, rfl, ?_, ⟨_, rfl⟩, hW, hsame.mono (by decide) (by decide)⟩
  · show Steps p.tables e below (s₁.setTop (mkF m 0 #[.val (.ref a1), .val (.ref a2)] [])) _
    refine XS.aloadN X0.here hx rfl (hb hby d19_0) rfl rfl ?_
    show Steps p.tables e below (s₁.setTop (mkF m 1 #[.val (.ref a1), .val (.ref a2)] [(.ref a2)])) _
    refine st1 _ ?_
    show Steps p.tables e below (T1.setTop (mkF m 4 #[.val (.ref a1), .val (.ref a2)] [(.int (0 : Int32))])) _
    refine XS.ifYes X1.here hx rfl (pc0 := 4) (pc' := 28) rfl (hb hby d19_4) rfl ((if0 _ _).trans (teq h2).1) (by decide) (by decide) ?_
    show Steps p.tables e below (T1.setTop (mkF m 28 #[.val (.ref a1), .val (.ref a2)] [])) _
    refine XS.iconst X1.here hx rfl (hb hby d19_28) ?_
    show Steps p.tables e below (T1.setTop (mkF m 29 #[.val (.ref a1), .val (.ref a2)] [(.int (0 : Int32))])) _
    exact retN X1 hx (t := .boolean) Bd.returns (by simp) (hb hby d19_29) hr
  · show Qeqs Z a1 a2 h0 n0 _ T1.heap _
    rw [e1]
    have hf : feqs  = (0 : Int32) := rfl
    exact ⟨by rw [hf], N0, rfl⟩
theorem pn_0 : plainName "com/example/hitotabi/hitotabi/IdempotencyKeyEqualsPinLaw" = true := by first | (simp [plainName, overriddenIn]; done) | decide +kernel
theorem ef_0 (m : MethodId) (p1 : Int32) (p2 : Int32) (p3 : Int32) : entryFrame m #[(.int p1), (.int p2), (.int p3)] maxLocals = mkF m 0 #[.val (.int p1), .val (.int p2), .val (.int p3), .unset, .unset, .unset, .unset, .unset, .unset, .unset, .unset, .unset, .unset, .unset, .unset, .unset, .unset] [] := by first | (simp [entryFrame, mkF, argsToLocals, Value.category, maxLocals]; done) | rfl
def Q0 (Z : State) (p1 : Int32) (p2 : Int32) (p3 : Int32) (cz : Int32) (sf : Value) (h0 : Heap) (n0 : Nat) (v : Option Value) (h : Heap) (L : List Loc) : Prop := v = some (.int (1 : Int32)) ∧ Fr n0 L
set_option maxRecDepth 65536 in
set_option maxHeartbeats 40000000 in
theorem rm0 (l : Launch) (Z : State) (a0 : Array Value) (hw : ∀ d ∈ tables_1, d.before a0 Z = true) (ws : List Jvm.Cond) (p1 : Int32) (p2 : Int32) (p3 : Int32) (cz : Int32) (sf : Value) (h0 : Heap) (n0 : Nat) (Z0 : n0 ≤ h0.size) (OLD : Old Z n0 h0) (hCS : Sta Z Z.heap "java/lang/String" "COMPACT_STRINGS" "Z" (.int cz)) (hcz : ¬ cz = 0) (hSF : Sta Z Z.heap "jdk/internal/util/Preconditions" "SIOOBE_FORMATTER" "Ljava/util/function/BiFunction;" sf) (hsf : sf = .null ∨ ∃ g, sf = .ref g) :
    MetFree l x (head1 (Jvm.Cond.code x code maxLocals ret :: ws) room_1) (fun a U => a = #[(.int p1), (.int p2), (.int p3)] ∧ Z.Warmed39 U.vm ∧ U.heap = h0) (fun _ _ _ _ _ => True) (fun _ U o U' => ∃ v L, o = .returned v ∧ Q0 Z p1 p2 p3 cz sf h0 n0 v U'.heap L ∧ ReturnedEndW U o U' L room_1.cells room_1.slots) := by
  refine MetFree.of_bodySF (plainFor_of_name pn_0) hisR ?_
  intro p e s m args below meth c s₁ Bd hml0 hP hK
  obtain ⟨rfl, hZ0, hh⟩ := hP
  have hZ : Z.Warmed39 (s.setVm s.vm).vm := hZ0
  have hx := Bd.exec
  have hby := Bd.bytes
  have hml : c.maxLocals = 17 := hml0
  have hown : (s.setVm s.vm).vm.findClass "com/example/hitotabi/hitotabi/IdempotencyKeyEqualsPinLaw" = some m.cls := findClass_of_methodNamed Bd.named
  have hnm := (name_of_methodNamed Bd.named Bd.method).1
  have X0 : Stand p l e room_1 (s.setVm s.vm) m #[(.int p1), (.int p2), (.int p3)] below meth c s₁ [] 0 0 := Stand.of_body Bd
  have e0 : s₁.heap = h0 := by rw [← hh, Bd.state]; rfl
  have N0 := Fr.nil n0
  have pre0 : ∀ t, Steps p.tables e below (s₁.setTop (mkF m 0 #[.val (.int p1), .val (.int p2), .val (.int p3), .unset, .unset, .unset, .unset, .unset, .unset, .unset, .unset, .unset, .unset, .unset, .unset, .unset, .unset] [])) t → Steps p.tables e below (s₁.setTop (entryFrame m #[(.int p1), (.int p2), (.int p3)] maxLocals)) t := fun t k => castTop (ef_0 m p1 p2 p3) k
  refine own_step (Q := fun o U' => ∃ v L, o = .returned v ∧ Q0 Z p1 p2 p3 cz sf h0 n0 v U'.heap L ∧ ReturnedEndW s o U' L room_1.cells room_1.slots) pre0 ?_
  have K0 : Keep h0 h0 [] := Keep.refl h0 []
  have hS0 : s.Since s.vm s.heap.size := (State.WarmedH.refl s).since _
  have hk0 : s.heap.size ≤ h0.size := Nat.le_of_eq (by rw [hh])
  obtain ⟨_, _, ⟨T1, L1, k1, n1⟩, -, X1, ⟨Lc1, hQ1, l1, y1, z1⟩, st1⟩ := Jvm.LawKit.callS X0 hx (y := (⟨"com/example/hitotabi/hitotabi/IdempotencyKeyEqualsPinLaw", "pc", "(I)C"⟩ : MethodName)) hown (mvT hZ (hw _ (List.mem_of_getElem? (i := 0) rfl))) (mvT hZ (hw _ (List.mem_of_getElem? (i := 1) rfl))) (mvT hZ (hw _ (List.mem_of_getElem? (i := 2) rfl))) (mvT hZ (hw _ (List.mem_of_getElem? (i := 3) rfl))) (by decide) (backOf (W := 0) (rmpc l Z a0 hw [] p1 h0 n0 Z0) hZ (hw _ (List.mem_of_getElem? (i := 3) rfl)) (hw _ (List.mem_of_getElem? (i := 2) rfl)) (by decide) (by decide)) (g := (mkF m 20 #[.val (.int p1), .val (.int p2), .val (.int p3), .val (.int ((1 : Int32) + (f0_0 p1 p2 p3 cz))), .val (.int ((1 : Int32) + (f0_1 p1 p2 p3 cz))), .unset, .unset, .unset, .unset, .unset, .unset, .unset, .unset, .unset, .unset, .unset, .unset] [(.int p1)])) rfl (by rw [hml]; rfl) (argsL := [(.int p1)]) (rest := []) (lenOf pd_9 rfl) rfl (by show 2 * 0 + _ ≤ _; exact Nat.le_of_eq rfl) (hb hby at_20) (fun _ _ => ⟨rfl, e0, (by decide : 0 + 0 ≤ _), (by decide : 0 + 0 ≤ _)⟩)
  dsimp only [Pt.U, Pt.locs, Pt.cells, Pt.slots] at X1 l1 y1 z1 st1 hQ1
  subst l1 y1 z1
  obtain ⟨rfl, N1q, e1⟩ := hQ1
  have N1 := Fr.app N0 N1q
  obtain ⟨_, _, ⟨T2, L2, k2, n2⟩, -, X2, ⟨Lc2, hQ2, l2, y2, z2⟩, st2⟩ := Jvm.LawKit.callS X1 hx (y := (⟨"com/example/hitotabi/hitotabi/IdempotencyKeyEqualsPinLaw", "pc", "(I)C"⟩ : MethodName)) hown (mvT hZ (hw _ (List.mem_of_getElem? (i := 0) rfl))) (mvT hZ (hw _ (List.mem_of_getElem? (i := 1) rfl))) (mvT hZ (hw _ (List.mem_of_getElem? (i := 2) rfl))) (mvT hZ (hw _ (List.mem_of_getElem? (i := 3) rfl))) (by decide) (backOf (W := 0) (rmpc l Z a0 hw [] (XT.ushr p1 (8 : Int32)) h0 n0 Z0) hZ (hw _ (List.mem_of_getElem? (i := 3) rfl)) (hw _ (List.mem_of_getElem? (i := 2) rfl)) (by decide) (by decide)) (g := (mkF m 29 #[.val (.int p1), .val (.int p2), .val (.int p3), .val (.int ((1 : Int32) + (f0_0 p1 p2 p3 cz))), .val (.int ((1 : Int32) + (f0_1 p1 p2 p3 cz))), .val (.int (fpc p1)), .unset, .unset, .unset, .unset, .unset, .unset, .unset, .unset, .unset, .unset, .unset] [(.int (XT.ushr p1 (8 : Int32)))])) rfl (by rw [hml]; rfl) (argsL := [(.int (XT.ushr p1 (8 : Int32)))]) (rest := []) (lenOf pd_9 rfl) rfl (by show 2 * 0 + _ ≤ _; exact Nat.le_of_eq rfl) (hb hby at_29) (fun _ _ => ⟨rfl, e1, (by decide : 0 + 0 ≤ _), (by decide : 0 + 0 ≤ _)⟩)
  dsimp only [Pt.U, Pt.locs, Pt.cells, Pt.slots] at X2 l2 y2 z2 st2 hQ2
  subst l2 y2 z2
  obtain ⟨rfl, N2q, e2⟩ := hQ2
  have N2 := Fr.app N1 N2q
  obtain ⟨_, _, ⟨T3, L3, k3, n3⟩, -, X3, ⟨Lc3, hQ3, l3, y3, z3⟩, st3⟩ := Jvm.LawKit.callS X2 hx (y := (⟨"com/example/hitotabi/hitotabi/IdempotencyKeyEqualsPinLaw", "pc", "(I)C"⟩ : MethodName)) hown (mvT hZ (hw _ (List.mem_of_getElem? (i := 0) rfl))) (mvT hZ (hw _ (List.mem_of_getElem? (i := 1) rfl))) (mvT hZ (hw _ (List.mem_of_getElem? (i := 2) rfl))) (mvT hZ (hw _ (List.mem_of_getElem? (i := 3) rfl))) (by decide) (backOf (W := 0) (rmpc l Z a0 hw [] (XT.ushr p1 (16 : Int32)) h0 n0 Z0) hZ (hw _ (List.mem_of_getElem? (i := 3) rfl)) (hw _ (List.mem_of_getElem? (i := 2) rfl)) (by decide) (by decide)) (g := (mkF m 38 #[.val (.int p1), .val (.int p2), .val (.int p3), .val (.int ((1 : Int32) + (f0_0 p1 p2 p3 cz))), .val (.int ((1 : Int32) + (f0_1 p1 p2 p3 cz))), .val (.int (fpc p1)), .val (.int (fpc (XT.ushr p1 (8 : Int32)))), .unset, .unset, .unset, .unset, .unset, .unset, .unset, .unset, .unset, .unset] [(.int (XT.ushr p1 (16 : Int32)))])) rfl (by rw [hml]; rfl) (argsL := [(.int (XT.ushr p1 (16 : Int32)))]) (rest := []) (lenOf pd_9 rfl) rfl (by show 2 * 0 + _ ≤ _; exact Nat.le_of_eq rfl) (hb hby at_38) (fun _ _ => ⟨rfl, e2, (by decide : 0 + 0 ≤ _), (by decide : 0 + 0 ≤ _)⟩)
  dsimp only [Pt.U, Pt.locs, Pt.cells, Pt.slots] at X3 l3 y3 z3 st3 hQ3
  subst l3 y3 z3
  obtain ⟨rfl, N3q, e3⟩ := hQ3
  have N3 := Fr.app N2 N3q
  obtain ⟨T6, lo6, X6, e6, N6, st6⟩ : ∃ (T' : State) (lo : List Loc) (_ : Stand p l e room_1 (s.setVm s.vm) m #[(.int p1), (.int p2), (.int p3)] below meth c T' lo 0 0), T'.heap = h0 ∧ Fr n0 lo ∧ ∀ t, Steps p.tables e below (T'.setTop (mkF m 60 #[.val (.int p1), .val (.int p2), .val (.int p3), .val (.int ((1 : Int32) + (f0_0 p1 p2 p3 cz))), .val (.int ((1 : Int32) + (f0_1 p1 p2 p3 cz))), .val (.int (fpc p1)), .val (.int (fpc (XT.ushr p1 (8 : Int32)))), .val (.int (fpc (XT.ushr p1 (16 : Int32)))), .unset, .unset, .unset, .unset, .unset, .unset, .unset, .unset, .unset] [(.int (f0_2 p1 p2 p3 cz))])) t → Steps p.tables e below (T3.setTop (mkF m 48 #[.val (.int p1), .val (.int p2), .val (.int p3), .val (.int ((1 : Int32) + (f0_0 p1 p2 p3 cz))), .val (.int ((1 : Int32) + (f0_1 p1 p2 p3 cz))), .val (.int (fpc p1)), .val (.int (fpc (XT.ushr p1 (8 : Int32)))), .val (.int (fpc (XT.ushr p1 (16 : Int32)))), .unset, .unset, .unset, .unset, .unset, .unset, .unset, .unset, .unset] [(.int ((XT.ushr p3 (4 : Int32)) &&& (1 : Int32)))])) t := by
    by_cases h4 : ((XT.ushr p3 (4 : Int32)) &&& (1 : Int32)) = (0 : Int32)
    · obtain ⟨_, _, ⟨T5, L5, k5, n5⟩, -, X5, ⟨Lc5, hQ5, l5, y5, z5⟩, st5⟩ := Jvm.LawKit.callS X3 hx (y := (⟨"com/example/hitotabi/hitotabi/IdempotencyKeyEqualsPinLaw", "pc", "(I)C"⟩ : MethodName)) hown (mvT hZ (hw _ (List.mem_of_getElem? (i := 0) rfl))) (mvT hZ (hw _ (List.mem_of_getElem? (i := 1) rfl))) (mvT hZ (hw _ (List.mem_of_getElem? (i := 2) rfl))) (mvT hZ (hw _ (List.mem_of_getElem? (i := 3) rfl))) (by decide) (backOf (W := 0) (rmpc l Z a0 hw [] p2 h0 n0 Z0) hZ (hw _ (List.mem_of_getElem? (i := 3) rfl)) (hw _ (List.mem_of_getElem? (i := 2) rfl)) (by decide) (by decide)) (g := (mkF m 57 #[.val (.int p1), .val (.int p2), .val (.int p3), .val (.int ((1 : Int32) + (f0_0 p1 p2 p3 cz))), .val (.int ((1 : Int32) + (f0_1 p1 p2 p3 cz))), .val (.int (fpc p1)), .val (.int (fpc (XT.ushr p1 (8 : Int32)))), .val (.int (fpc (XT.ushr p1 (16 : Int32)))), .unset, .unset, .unset, .unset, .unset, .unset, .unset, .unset, .unset] [(.int p2)])) rfl (by rw [hml]; rfl) (argsL := [(.int p2)]) (rest := []) (lenOf pd_9 rfl) rfl (by show 2 * 0 + _ ≤ _; exact Nat.le_of_eq rfl) (hb hby at_57) (fun _ _ => ⟨rfl, e3, (by decide : 0 + 0 ≤ _), (by decide : 0 + 0 ≤ _)⟩)
      dsimp only [Pt.U, Pt.locs, Pt.cells, Pt.slots] at X5 l5 y5 z5 st5 hQ5
      subst l5 y5 z5
      obtain ⟨rfl, N5q, e5⟩ := hQ5
      have N5 := Fr.app N3 N5q
      refine ⟨T5, _, X5, e5, N5, fun t k => ?_⟩
      rw [show (f0_2 p1 p2 p3 cz) = (fpc p2) from if_pos h4] at k
      show Steps p.tables e below (T3.setTop (mkF m 48 #[.val (.int p1), .val (.int p2), .val (.int p3), .val (.int ((1 : Int32) + (f0_0 p1 p2 p3 cz))), .val (.int ((1 : Int32) + (f0_1 p1 p2 p3 cz))), .val (.int (fpc p1)), .val (.int (fpc (XT.ushr p1 (8 : Int32)))), .val (.int (fpc (XT.ushr p1 (16 : Int32)))), .unset, .unset, .unset, .unset, .unset, .unset, .unset, .unset, .unset] [(.int ((XT.ushr p3 (4 : Int32)) &&& (1 : Int32)))])) _
      refine XS.ifYes X3.here hx rfl (pc0 := 48) (pc' := 56) rfl (hb hby at_48) rfl ((if0 _ _).trans (teq h4).1) (by decide) (by decide) ?_
      show Steps p.tables e below (T3.setTop (mkF m 56 #[.val (.int p1), .val (.int p2), .val (.int p3), .val (.int ((1 : Int32) + (f0_0 p1 p2 p3 cz))), .val (.int ((1 : Int32) + (f0_1 p1 p2 p3 cz))), .val (.int (fpc p1)), .val (.int (fpc (XT.ushr p1 (8 : Int32)))), .val (.int (fpc (XT.ushr p1 (16 : Int32)))), .unset, .unset, .unset, .unset, .unset, .unset, .unset, .unset, .unset] [])) _
      refine XS.iloadN X3.here hx rfl (hb hby at_56) rfl ?_
      show Steps p.tables e below (T3.setTop (mkF m 57 #[.val (.int p1), .val (.int p2), .val (.int p3), .val (.int ((1 : Int32) + (f0_0 p1 p2 p3 cz))), .val (.int ((1 : Int32) + (f0_1 p1 p2 p3 cz))), .val (.int (fpc p1)), .val (.int (fpc (XT.ushr p1 (8 : Int32)))), .val (.int (fpc (XT.ushr p1 (16 : Int32)))), .unset, .unset, .unset, .unset, .unset, .unset, .unset, .unset, .unset] [(.int p2)])) _
      refine st5 _ ?_
      exact k
    · refine ⟨T3, _, X3, e3, N3, fun t k => ?_⟩
      rw [show (f0_2 p1 p2 p3 cz) = (fpc p1) from if_neg h4] at k
      show Steps p.tables e below (T3.setTop (mkF m 48 #[.val (.int p1), .val (.int p2), .val (.int p3), .val (.int ((1 : Int32) + (f0_0 p1 p2 p3 cz))), .val (.int ((1 : Int32) + (f0_1 p1 p2 p3 cz))), .val (.int (fpc p1)), .val (.int (fpc (XT.ushr p1 (8 : Int32)))), .val (.int (fpc (XT.ushr p1 (16 : Int32)))), .unset, .unset, .unset, .unset, .unset, .unset, .unset, .unset, .unset] [(.int ((XT.ushr p3 (4 : Int32)) &&& (1 : Int32)))])) _
      refine XS.ifNo X3.here hx rfl (hb hby at_48) rfl ((if0 _ _).trans (feq h4).1) ?_
      show Steps p.tables e below (T3.setTop (mkF m 51 #[.val (.int p1), .val (.int p2), .val (.int p3), .val (.int ((1 : Int32) + (f0_0 p1 p2 p3 cz))), .val (.int ((1 : Int32) + (f0_1 p1 p2 p3 cz))), .val (.int (fpc p1)), .val (.int (fpc (XT.ushr p1 (8 : Int32)))), .val (.int (fpc (XT.ushr p1 (16 : Int32)))), .unset, .unset, .unset, .unset, .unset, .unset, .unset, .unset, .unset] [])) _
      refine XS.iload X3.here hx rfl (hb hby at_51) rfl ?_
      show Steps p.tables e below (T3.setTop (mkF m 53 #[.val (.int p1), .val (.int p2), .val (.int p3), .val (.int ((1 : Int32) + (f0_0 p1 p2 p3 cz))), .val (.int ((1 : Int32) + (f0_1 p1 p2 p3 cz))), .val (.int (fpc p1)), .val (.int (fpc (XT.ushr p1 (8 : Int32)))), .val (.int (fpc (XT.ushr p1 (16 : Int32)))), .unset, .unset, .unset, .unset, .unset, .unset, .unset, .unset, .unset] [(.int (fpc p1))])) _
      refine XS.goto X3.here hx rfl (pc0 := 53) (pc' := 60) rfl (hb hby at_53) (by decide) (by decide) ?_
      exact k
  obtain ⟨T9, lo9, X9, e9, N9, st9⟩ : ∃ (T' : State) (lo : List Loc) (_ : Stand p l e room_1 (s.setVm s.vm) m #[(.int p1), (.int p2), (.int p3)] below meth c T' lo 0 0), T'.heap = h0 ∧ Fr n0 lo ∧ ∀ t, Steps p.tables e below (T'.setTop (mkF m 82 #[.val (.int p1), .val (.int p2), .val (.int p3), .val (.int ((1 : Int32) + (f0_0 p1 p2 p3 cz))), .val (.int ((1 : Int32) + (f0_1 p1 p2 p3 cz))), .val (.int (fpc p1)), .val (.int (fpc (XT.ushr p1 (8 : Int32)))), .val (.int (fpc (XT.ushr p1 (16 : Int32)))), .val (.int (f0_2 p1 p2 p3 cz)), .unset, .unset, .unset, .unset, .unset, .unset, .unset, .unset] [(.int (f0_3 p1 p2 p3 cz))])) t → Steps p.tables e below (T6.setTop (mkF m 67 #[.val (.int p1), .val (.int p2), .val (.int p3), .val (.int ((1 : Int32) + (f0_0 p1 p2 p3 cz))), .val (.int ((1 : Int32) + (f0_1 p1 p2 p3 cz))), .val (.int (fpc p1)), .val (.int (fpc (XT.ushr p1 (8 : Int32)))), .val (.int (fpc (XT.ushr p1 (16 : Int32)))), .val (.int (f0_2 p1 p2 p3 cz)), .unset, .unset, .unset, .unset, .unset, .unset, .unset, .unset] [(.int ((XT.ushr p3 (5 : Int32)) &&& (1 : Int32)))])) t := by
    by_cases h7 : ((XT.ushr p3 (5 : Int32)) &&& (1 : Int32)) = (0 : Int32)
    · obtain ⟨_, _, ⟨T8, L8, k8, n8⟩, -, X8, ⟨Lc8, hQ8, l8, y8, z8⟩, st8⟩ := Jvm.LawKit.callS X6 hx (y := (⟨"com/example/hitotabi/hitotabi/IdempotencyKeyEqualsPinLaw", "pc", "(I)C"⟩ : MethodName)) hown (mvT hZ (hw _ (List.mem_of_getElem? (i := 0) rfl))) (mvT hZ (hw _ (List.mem_of_getElem? (i := 1) rfl))) (mvT hZ (hw _ (List.mem_of_getElem? (i := 2) rfl))) (mvT hZ (hw _ (List.mem_of_getElem? (i := 3) rfl))) (by decide) (backOf (W := 0) (rmpc l Z a0 hw [] (XT.ushr p2 (8 : Int32)) h0 n0 Z0) hZ (hw _ (List.mem_of_getElem? (i := 3) rfl)) (hw _ (List.mem_of_getElem? (i := 2) rfl)) (by decide) (by decide)) (g := (mkF m 79 #[.val (.int p1), .val (.int p2), .val (.int p3), .val (.int ((1 : Int32) + (f0_0 p1 p2 p3 cz))), .val (.int ((1 : Int32) + (f0_1 p1 p2 p3 cz))), .val (.int (fpc p1)), .val (.int (fpc (XT.ushr p1 (8 : Int32)))), .val (.int (fpc (XT.ushr p1 (16 : Int32)))), .val (.int (f0_2 p1 p2 p3 cz)), .unset, .unset, .unset, .unset, .unset, .unset, .unset, .unset] [(.int (XT.ushr p2 (8 : Int32)))])) rfl (by rw [hml]; rfl) (argsL := [(.int (XT.ushr p2 (8 : Int32)))]) (rest := []) (lenOf pd_9 rfl) rfl (by show 2 * 0 + _ ≤ _; exact Nat.le_of_eq rfl) (hb hby at_79) (fun _ _ => ⟨rfl, e6, (by decide : 0 + 0 ≤ _), (by decide : 0 + 0 ≤ _)⟩)
      dsimp only [Pt.U, Pt.locs, Pt.cells, Pt.slots] at X8 l8 y8 z8 st8 hQ8
      subst l8 y8 z8
      obtain ⟨rfl, N8q, e8⟩ := hQ8
      have N8 := Fr.app N6 N8q
      refine ⟨T8, _, X8, e8, N8, fun t k => ?_⟩
      rw [show (f0_3 p1 p2 p3 cz) = (fpc (XT.ushr p2 (8 : Int32))) from if_pos h7] at k
      show Steps p.tables e below (T6.setTop (mkF m 67 #[.val (.int p1), .val (.int p2), .val (.int p3), .val (.int ((1 : Int32) + (f0_0 p1 p2 p3 cz))), .val (.int ((1 : Int32) + (f0_1 p1 p2 p3 cz))), .val (.int (fpc p1)), .val (.int (fpc (XT.ushr p1 (8 : Int32)))), .val (.int (fpc (XT.ushr p1 (16 : Int32)))), .val (.int (f0_2 p1 p2 p3 cz)), .unset, .unset, .unset, .unset, .unset, .unset, .unset, .unset] [(.int ((XT.ushr p3 (5 : Int32)) &&& (1 : Int32)))])) _
      refine XS.ifYes X6.here hx rfl (pc0 := 67) (pc' := 75) rfl (hb hby at_67) rfl ((if0 _ _).trans (teq h7).1) (by decide) (by decide) ?_
      show Steps p.tables e below (T6.setTop (mkF m 75 #[.val (.int p1), .val (.int p2), .val (.int p3), .val (.int ((1 : Int32) + (f0_0 p1 p2 p3 cz))), .val (.int ((1 : Int32) + (f0_1 p1 p2 p3 cz))), .val (.int (fpc p1)), .val (.int (fpc (XT.ushr p1 (8 : Int32)))), .val (.int (fpc (XT.ushr p1 (16 : Int32)))), .val (.int (f0_2 p1 p2 p3 cz)), .unset, .unset, .unset, .unset, .unset, .unset, .unset, .unset] [])) _
      refine XS.iloadN X6.here hx rfl (hb hby at_75) rfl ?_
      show Steps p.tables e below (T6.setTop (mkF m 76 #[.val (.int p1), .val (.int p2), .val (.int p3), .val (.int ((1 : Int32) + (f0_0 p1 p2 p3 cz))), .val (.int ((1 : Int32) + (f0_1 p1 p2 p3 cz))), .val (.int (fpc p1)), .val (.int (fpc (XT.ushr p1 (8 : Int32)))), .val (.int (fpc (XT.ushr p1 (16 : Int32)))), .val (.int (f0_2 p1 p2 p3 cz)), .unset, .unset, .unset, .unset, .unset, .unset, .unset, .unset] [(.int p2)])) _
      refine XS.bipush X6.here hx rfl (hb hby at_76) ?_
      show Steps p.tables e below (T6.setTop (mkF m 78 #[.val (.int p1), .val (.int p2), .val (.int p3), .val (.int ((1 : Int32) + (f0_0 p1 p2 p3 cz))), .val (.int ((1 : Int32) + (f0_1 p1 p2 p3 cz))), .val (.int (fpc p1)), .val (.int (fpc (XT.ushr p1 (8 : Int32)))), .val (.int (fpc (XT.ushr p1 (16 : Int32)))), .val (.int (f0_2 p1 p2 p3 cz)), .unset, .unset, .unset, .unset, .unset, .unset, .unset, .unset] [(.int (8 : Int32)), (.int p2)])) _
      refine XT.iushr X6.here hx rfl (hb hby at_78) rfl ?_
      show Steps p.tables e below (T6.setTop (mkF m 79 #[.val (.int p1), .val (.int p2), .val (.int p3), .val (.int ((1 : Int32) + (f0_0 p1 p2 p3 cz))), .val (.int ((1 : Int32) + (f0_1 p1 p2 p3 cz))), .val (.int (fpc p1)), .val (.int (fpc (XT.ushr p1 (8 : Int32)))), .val (.int (fpc (XT.ushr p1 (16 : Int32)))), .val (.int (f0_2 p1 p2 p3 cz)), .unset, .unset, .unset, .unset, .unset, .unset, .unset, .unset] [(.int (XT.ushr p2 (8 : Int32)))])) _
      refine st8 _ ?_
      exact k
    · refine ⟨T6, _, X6, e6, N6, fun t k => ?_⟩
      rw [show (f0_3 p1 p2 p3 cz) = (fpc (XT.ushr p1 (8 : Int32))) from if_neg h7] at k
      show Steps p.tables e below (T6.setTop (mkF m 67 #[.val (.int p1), .val (.int p2), .val (.int p3), .val (.int ((1 : Int32) + (f0_0 p1 p2 p3 cz))), .val (.int ((1 : Int32) + (f0_1 p1 p2 p3 cz))), .val (.int (fpc p1)), .val (.int (fpc (XT.ushr p1 (8 : Int32)))), .val (.int (fpc (XT.ushr p1 (16 : Int32)))), .val (.int (f0_2 p1 p2 p3 cz)), .unset, .unset, .unset, .unset, .unset, .unset, .unset, .unset] [(.int ((XT.ushr p3 (5 : Int32)) &&& (1 : Int32)))])) _
      refine XS.ifNo X6.here hx rfl (hb hby at_67) rfl ((if0 _ _).trans (feq h7).1) ?_
      show Steps p.tables e below (T6.setTop (mkF m 70 #[.val (.int p1), .val (.int p2), .val (.int p3), .val (.int ((1 : Int32) + (f0_0 p1 p2 p3 cz))), .val (.int ((1 : Int32) + (f0_1 p1 p2 p3 cz))), .val (.int (fpc p1)), .val (.int (fpc (XT.ushr p1 (8 : Int32)))), .val (.int (fpc (XT.ushr p1 (16 : Int32)))), .val (.int (f0_2 p1 p2 p3 cz)), .unset, .unset, .unset, .unset, .unset, .unset, .unset, .unset] [])) _
      refine XS.iload X6.here hx rfl (hb hby at_70) rfl ?_
      show Steps p.tables e below (T6.setTop (mkF m 72 #[.val (.int p1), .val (.int p2), .val (.int p3), .val (.int ((1 : Int32) + (f0_0 p1 p2 p3 cz))), .val (.int ((1 : Int32) + (f0_1 p1 p2 p3 cz))), .val (.int (fpc p1)), .val (.int (fpc (XT.ushr p1 (8 : Int32)))), .val (.int (fpc (XT.ushr p1 (16 : Int32)))), .val (.int (f0_2 p1 p2 p3 cz)), .unset, .unset, .unset, .unset, .unset, .unset, .unset, .unset] [(.int (fpc (XT.ushr p1 (8 : Int32))))])) _
      refine XS.goto X6.here hx rfl (pc0 := 72) (pc' := 82) rfl (hb hby at_72) (by decide) (by decide) ?_
      exact k
  obtain ⟨T12, lo12, X12, e12, N12, st12⟩ : ∃ (T' : State) (lo : List Loc) (_ : Stand p l e room_1 (s.setVm s.vm) m #[(.int p1), (.int p2), (.int p3)] below meth c T' lo 0 0), T'.heap = h0 ∧ Fr n0 lo ∧ ∀ t, Steps p.tables e below (T'.setTop (mkF m 105 #[.val (.int p1), .val (.int p2), .val (.int p3), .val (.int ((1 : Int32) + (f0_0 p1 p2 p3 cz))), .val (.int ((1 : Int32) + (f0_1 p1 p2 p3 cz))), .val (.int (fpc p1)), .val (.int (fpc (XT.ushr p1 (8 : Int32)))), .val (.int (fpc (XT.ushr p1 (16 : Int32)))), .val (.int (f0_2 p1 p2 p3 cz)), .val (.int (f0_3 p1 p2 p3 cz)), .unset, .unset, .unset, .unset, .unset, .unset, .unset] [(.int (f0_4 p1 p2 p3 cz))])) t → Steps p.tables e below (T9.setTop (mkF m 90 #[.val (.int p1), .val (.int p2), .val (.int p3), .val (.int ((1 : Int32) + (f0_0 p1 p2 p3 cz))), .val (.int ((1 : Int32) + (f0_1 p1 p2 p3 cz))), .val (.int (fpc p1)), .val (.int (fpc (XT.ushr p1 (8 : Int32)))), .val (.int (fpc (XT.ushr p1 (16 : Int32)))), .val (.int (f0_2 p1 p2 p3 cz)), .val (.int (f0_3 p1 p2 p3 cz)), .unset, .unset, .unset, .unset, .unset, .unset, .unset] [(.int ((XT.ushr p3 (6 : Int32)) &&& (1 : Int32)))])) t := by
    by_cases h10 : ((XT.ushr p3 (6 : Int32)) &&& (1 : Int32)) = (0 : Int32)
    · obtain ⟨_, _, ⟨T11, L11, k11, n11⟩, -, X11, ⟨Lc11, hQ11, l11, y11, z11⟩, st11⟩ := Jvm.LawKit.callS X9 hx (y := (⟨"com/example/hitotabi/hitotabi/IdempotencyKeyEqualsPinLaw", "pc", "(I)C"⟩ : MethodName)) hown (mvT hZ (hw _ (List.mem_of_getElem? (i := 0) rfl))) (mvT hZ (hw _ (List.mem_of_getElem? (i := 1) rfl))) (mvT hZ (hw _ (List.mem_of_getElem? (i := 2) rfl))) (mvT hZ (hw _ (List.mem_of_getElem? (i := 3) rfl))) (by decide) (backOf (W := 0) (rmpc l Z a0 hw [] (XT.ushr p2 (16 : Int32)) h0 n0 Z0) hZ (hw _ (List.mem_of_getElem? (i := 3) rfl)) (hw _ (List.mem_of_getElem? (i := 2) rfl)) (by decide) (by decide)) (g := (mkF m 102 #[.val (.int p1), .val (.int p2), .val (.int p3), .val (.int ((1 : Int32) + (f0_0 p1 p2 p3 cz))), .val (.int ((1 : Int32) + (f0_1 p1 p2 p3 cz))), .val (.int (fpc p1)), .val (.int (fpc (XT.ushr p1 (8 : Int32)))), .val (.int (fpc (XT.ushr p1 (16 : Int32)))), .val (.int (f0_2 p1 p2 p3 cz)), .val (.int (f0_3 p1 p2 p3 cz)), .unset, .unset, .unset, .unset, .unset, .unset, .unset] [(.int (XT.ushr p2 (16 : Int32)))])) rfl (by rw [hml]; rfl) (argsL := [(.int (XT.ushr p2 (16 : Int32)))]) (rest := []) (lenOf pd_9 rfl) rfl (by show 2 * 0 + _ ≤ _; exact Nat.le_of_eq rfl) (hb hby at_102) (fun _ _ => ⟨rfl, e9, (by decide : 0 + 0 ≤ _), (by decide : 0 + 0 ≤ _)⟩)
      dsimp only [Pt.U, Pt.locs, Pt.cells, Pt.slots] at X11 l11 y11 z11 st11 hQ11
      subst l11 y11 z11
      obtain ⟨rfl, N11q, e11⟩ := hQ11
      have N11 := Fr.app N9 N11q
      refine ⟨T11, _, X11, e11, N11, fun t k => ?_⟩
      rw [show (f0_4 p1 p2 p3 cz) = (fpc (XT.ushr p2 (16 : Int32))) from if_pos h10] at k
      show Steps p.tables e below (T9.setTop (mkF m 90 #[.val (.int p1), .val (.int p2), .val (.int p3), .val (.int ((1 : Int32) + (f0_0 p1 p2 p3 cz))), .val (.int ((1 : Int32) + (f0_1 p1 p2 p3 cz))), .val (.int (fpc p1)), .val (.int (fpc (XT.ushr p1 (8 : Int32)))), .val (.int (fpc (XT.ushr p1 (16 : Int32)))), .val (.int (f0_2 p1 p2 p3 cz)), .val (.int (f0_3 p1 p2 p3 cz)), .unset, .unset, .unset, .unset, .unset, .unset, .unset] [(.int ((XT.ushr p3 (6 : Int32)) &&& (1 : Int32)))])) _
      refine XS.ifYes X9.here hx rfl (pc0 := 90) (pc' := 98) rfl (hb hby at_90) rfl ((if0 _ _).trans (teq h10).1) (by decide) (by decide) ?_
      show Steps p.tables e below (T9.setTop (mkF m 98 #[.val (.int p1), .val (.int p2), .val (.int p3), .val (.int ((1 : Int32) + (f0_0 p1 p2 p3 cz))), .val (.int ((1 : Int32) + (f0_1 p1 p2 p3 cz))), .val (.int (fpc p1)), .val (.int (fpc (XT.ushr p1 (8 : Int32)))), .val (.int (fpc (XT.ushr p1 (16 : Int32)))), .val (.int (f0_2 p1 p2 p3 cz)), .val (.int (f0_3 p1 p2 p3 cz)), .unset, .unset, .unset, .unset, .unset, .unset, .unset] [])) _
      refine XS.iloadN X9.here hx rfl (hb hby at_98) rfl ?_
      show Steps p.tables e below (T9.setTop (mkF m 99 #[.val (.int p1), .val (.int p2), .val (.int p3), .val (.int ((1 : Int32) + (f0_0 p1 p2 p3 cz))), .val (.int ((1 : Int32) + (f0_1 p1 p2 p3 cz))), .val (.int (fpc p1)), .val (.int (fpc (XT.ushr p1 (8 : Int32)))), .val (.int (fpc (XT.ushr p1 (16 : Int32)))), .val (.int (f0_2 p1 p2 p3 cz)), .val (.int (f0_3 p1 p2 p3 cz)), .unset, .unset, .unset, .unset, .unset, .unset, .unset] [(.int p2)])) _
      refine XS.bipush X9.here hx rfl (hb hby at_99) ?_
      show Steps p.tables e below (T9.setTop (mkF m 101 #[.val (.int p1), .val (.int p2), .val (.int p3), .val (.int ((1 : Int32) + (f0_0 p1 p2 p3 cz))), .val (.int ((1 : Int32) + (f0_1 p1 p2 p3 cz))), .val (.int (fpc p1)), .val (.int (fpc (XT.ushr p1 (8 : Int32)))), .val (.int (fpc (XT.ushr p1 (16 : Int32)))), .val (.int (f0_2 p1 p2 p3 cz)), .val (.int (f0_3 p1 p2 p3 cz)), .unset, .unset, .unset, .unset, .unset, .unset, .unset] [(.int (16 : Int32)), (.int p2)])) _
      refine XT.iushr X9.here hx rfl (hb hby at_101) rfl ?_
      show Steps p.tables e below (T9.setTop (mkF m 102 #[.val (.int p1), .val (.int p2), .val (.int p3), .val (.int ((1 : Int32) + (f0_0 p1 p2 p3 cz))), .val (.int ((1 : Int32) + (f0_1 p1 p2 p3 cz))), .val (.int (fpc p1)), .val (.int (fpc (XT.ushr p1 (8 : Int32)))), .val (.int (fpc (XT.ushr p1 (16 : Int32)))), .val (.int (f0_2 p1 p2 p3 cz)), .val (.int (f0_3 p1 p2 p3 cz)), .unset, .unset, .unset, .unset, .unset, .unset, .unset] [(.int (XT.ushr p2 (16 : Int32)))])) _
      refine st11 _ ?_
      exact k
    · refine ⟨T9, _, X9, e9, N9, fun t k => ?_⟩
      rw [show (f0_4 p1 p2 p3 cz) = (fpc (XT.ushr p1 (16 : Int32))) from if_neg h10] at k
      show Steps p.tables e below (T9.setTop (mkF m 90 #[.val (.int p1), .val (.int p2), .val (.int p3), .val (.int ((1 : Int32) + (f0_0 p1 p2 p3 cz))), .val (.int ((1 : Int32) + (f0_1 p1 p2 p3 cz))), .val (.int (fpc p1)), .val (.int (fpc (XT.ushr p1 (8 : Int32)))), .val (.int (fpc (XT.ushr p1 (16 : Int32)))), .val (.int (f0_2 p1 p2 p3 cz)), .val (.int (f0_3 p1 p2 p3 cz)), .unset, .unset, .unset, .unset, .unset, .unset, .unset] [(.int ((XT.ushr p3 (6 : Int32)) &&& (1 : Int32)))])) _
      refine XS.ifNo X9.here hx rfl (hb hby at_90) rfl ((if0 _ _).trans (feq h10).1) ?_
      show Steps p.tables e below (T9.setTop (mkF m 93 #[.val (.int p1), .val (.int p2), .val (.int p3), .val (.int ((1 : Int32) + (f0_0 p1 p2 p3 cz))), .val (.int ((1 : Int32) + (f0_1 p1 p2 p3 cz))), .val (.int (fpc p1)), .val (.int (fpc (XT.ushr p1 (8 : Int32)))), .val (.int (fpc (XT.ushr p1 (16 : Int32)))), .val (.int (f0_2 p1 p2 p3 cz)), .val (.int (f0_3 p1 p2 p3 cz)), .unset, .unset, .unset, .unset, .unset, .unset, .unset] [])) _
      refine XS.iload X9.here hx rfl (hb hby at_93) rfl ?_
      show Steps p.tables e below (T9.setTop (mkF m 95 #[.val (.int p1), .val (.int p2), .val (.int p3), .val (.int ((1 : Int32) + (f0_0 p1 p2 p3 cz))), .val (.int ((1 : Int32) + (f0_1 p1 p2 p3 cz))), .val (.int (fpc p1)), .val (.int (fpc (XT.ushr p1 (8 : Int32)))), .val (.int (fpc (XT.ushr p1 (16 : Int32)))), .val (.int (f0_2 p1 p2 p3 cz)), .val (.int (f0_3 p1 p2 p3 cz)), .unset, .unset, .unset, .unset, .unset, .unset, .unset] [(.int (fpc (XT.ushr p1 (16 : Int32))))])) _
      refine XS.goto X9.here hx rfl (pc0 := 95) (pc' := 105) rfl (hb hby at_95) (by decide) (by decide) ?_
      exact k
  obtain ⟨T13, h13, X13, e13, E13, A13, D13, -, st13⟩ := newO X12 hx hZ hown (hw _ (List.mem_of_getElem? (i := 4) rfl)) (hw _ (List.mem_of_getElem? (i := 5) rfl)) (hw _ (List.mem_of_getElem? (i := 6) rfl)) e12 (g := (mkF m 107 #[.val (.int p1), .val (.int p2), .val (.int p3), .val (.int ((1 : Int32) + (f0_0 p1 p2 p3 cz))), .val (.int ((1 : Int32) + (f0_1 p1 p2 p3 cz))), .val (.int (fpc p1)), .val (.int (fpc (XT.ushr p1 (8 : Int32)))), .val (.int (fpc (XT.ushr p1 (16 : Int32)))), .val (.int (f0_2 p1 p2 p3 cz)), .val (.int (f0_3 p1 p2 p3 cz)), .val (.int (f0_4 p1 p2 p3 cz)), .unset, .unset, .unset, .unset, .unset, .unset] [])) rfl (hb hby at_107) (by decide) (by decide)
  obtain ⟨o13, g13⟩ : ∃ z, z = h0.size := ⟨_, rfl⟩
  rw [← g13] at A13 D13 st13
  have ge13 : n0 ≤ o13 := Nat.le_trans Z0 (Nat.le_of_eq g13.symm)
  have Z13 : n0 ≤ h13.size := Nat.le_trans Z0 E13.1
  have hg13 := Nat.le_trans hk0 E13.1
  have sz13 : h0.size ≤ o13 := Nat.le_trans K0.1 (Nat.le_of_eq g13.symm)
  have K13 := K0.ext E13
  have OL13 := OLD.ext E13
  have D13_90 : Fld Z h13 o13 "com/example/hitotabi/hitotabi/IdempotencyKey" "value" "Ljava/lang/String;" .null := D13 (Or.inr (hw _ (List.mem_of_getElem? (i := 90) rfl))) (ty := (.object "java/lang/String")) (by decide)
  obtain ⟨_, _, ⟨T14, L14, k14, n14⟩, -, X14, ⟨Lc14, hQ14, l14, y14, z14⟩, st14⟩ := Jvm.LawKit.callS X13 hx (y := (⟨"com/example/hitotabi/hitotabi/IdempotencyKeyEqualsPinLaw", "mk", "(ICCC)Ljava/lang/String;"⟩ : MethodName)) hown (mvT hZ (hw _ (List.mem_of_getElem? (i := 7) rfl))) (mvT hZ (hw _ (List.mem_of_getElem? (i := 8) rfl))) (mvT hZ (hw _ (List.mem_of_getElem? (i := 2) rfl))) (mvT hZ (hw _ (List.mem_of_getElem? (i := 9) rfl))) (by decide) (backOf (W := 2) (rmmk l Z a0 hw [] ((1 : Int32) + (f0_0 p1 p2 p3 cz)) (fpc p1) (fpc (XT.ushr p1 (8 : Int32))) (fpc (XT.ushr p1 (16 : Int32))) cz h13 n0 Z13 OL13 (own_prpc _) (own_prpc _) (own_prpc _) hCS hcz) hZ (hw _ (List.mem_of_getElem? (i := 9) rfl)) (hw _ (List.mem_of_getElem? (i := 2) rfl)) (by decide) (by decide)) (g := (mkF m 118 #[.val (.int p1), .val (.int p2), .val (.int p3), .val (.int ((1 : Int32) + (f0_0 p1 p2 p3 cz))), .val (.int ((1 : Int32) + (f0_1 p1 p2 p3 cz))), .val (.int (fpc p1)), .val (.int (fpc (XT.ushr p1 (8 : Int32)))), .val (.int (fpc (XT.ushr p1 (16 : Int32)))), .val (.int (f0_2 p1 p2 p3 cz)), .val (.int (f0_3 p1 p2 p3 cz)), .val (.int (f0_4 p1 p2 p3 cz)), .unset, .unset, .unset, .unset, .unset, .unset] [(.int (fpc (XT.ushr p1 (16 : Int32)))), (.int (fpc (XT.ushr p1 (8 : Int32)))), (.int (fpc p1)), (.int ((1 : Int32) + (f0_0 p1 p2 p3 cz))), (.ref o13), (.ref o13)])) rfl (by rw [hml]; rfl) (argsL := [(.int ((1 : Int32) + (f0_0 p1 p2 p3 cz))), (.int (fpc p1)), (.int (fpc (XT.ushr p1 (8 : Int32)))), (.int (fpc (XT.ushr p1 (16 : Int32))))]) (rest := [(.ref o13), (.ref o13)]) (lenOf pd_10 rfl) rfl (by show 2 * 0 + _ ≤ _; exact Nat.le_of_eq rfl) (hb hby at_118) (fun _ _ => ⟨rfl, e13, (by decide : 1 + 3 ≤ _), (by decide : 1 + 10 ≤ _)⟩)
  dsimp only [Pt.U, Pt.locs, Pt.cells, Pt.slots] at X14 l14 y14 z14 st14 hQ14
  subst l14 y14 z14
  obtain ⟨r14, rfl, N14q, Kc14, fr14_r, c14_0, c14_1⟩ := hQ14
  have N14 := Fr.app N12 N14q
  have ne14_r_1 : o13 ≠ r14 := Nat.ne_of_lt (Nat.lt_of_lt_of_le A13.lt fr14_r)
  have ge14_r : n0 ≤ r14 := Nat.le_trans Z13 fr14_r
  have sz14_r : h0.size ≤ r14 := Nat.le_trans K13.1 fr14_r
  have u14_0 := A13.keep Kc14
  have u14_1 := D13_90.keep Kc14 (List.not_mem_nil)
  have OL14 := OL13.keep Kc14 (fun x hx => absurd hx List.not_mem_nil)
  have K14 := K13.trans Kc14 (fun x hx => absurd hx List.not_mem_nil)
  have Z14 : n0 ≤ T14.heap.size := Nat.le_trans Z13 Kc14.1
  have hg14 := Nat.le_trans hg13 Kc14.1
  obtain ⟨_, _, ⟨T15, L15, k15, n15⟩, -, Xw15, hsn15, hgr15, ⟨Lc15, hQ15, l15, y15, z15⟩, st15⟩ := X14.specialBackS hx (y := (⟨"com/example/hitotabi/hitotabi/IdempotencyKey", "<init>", "(Ljava/lang/String;)V"⟩ : MethodName)) rfl hown (mvT hZ (hw _ (List.mem_of_getElem? (i := 40) rfl))) (mvT hZ (hw _ (List.mem_of_getElem? (i := 41) rfl))) (mvT hZ (hw _ (List.mem_of_getElem? (i := 42) rfl))) (by decide) (backOfS (W := 1) (rmini l Z a0 hw [] o13 r14 (fmk_x0 ((1 : Int32) + (f0_0 p1 p2 p3 cz)) (fpc p1) (fpc (XT.ushr p1 (8 : Int32))) (fpc (XT.ushr p1 (16 : Int32))) cz) cz sf T14.heap n0 Z14 OL14 ge13 u14_0 u14_1 c14_1 (own_okmk _ _ _ _ _ (own_prpc _) (own_prpc _) (own_prpc _)) hCS hcz hSF hsf) hZ (hw _ (List.mem_of_getElem? (i := 42) rfl)) (hw _ (List.mem_of_getElem? (i := 6) rfl)) (by decide) (by decide)) (g := (mkF m 121 #[.val (.int p1), .val (.int p2), .val (.int p3), .val (.int ((1 : Int32) + (f0_0 p1 p2 p3 cz))), .val (.int ((1 : Int32) + (f0_1 p1 p2 p3 cz))), .val (.int (fpc p1)), .val (.int (fpc (XT.ushr p1 (8 : Int32)))), .val (.int (fpc (XT.ushr p1 (16 : Int32)))), .val (.int (f0_2 p1 p2 p3 cz)), .val (.int (f0_3 p1 p2 p3 cz)), .val (.int (f0_4 p1 p2 p3 cz)), .unset, .unset, .unset, .unset, .unset, .unset] [(.ref r14), (.ref o13), (.ref o13)])) rfl (by rw [hml]; rfl) (Steps.refl _) (a := o13) (argsL := [(.ref r14)]) (rest := [(.ref o13)]) (lenOf pd_11 rfl) rfl (by show 2 * 0 + _ ≤ _; exact Nat.le_of_eq rfl) (hb hby at_121) (fun _ _ => ⟨rfl, rfl, (by decide : 4 + 4 ≤ _), (by decide : 11 + 88 ≤ _)⟩)
  dsimp only [Pt.U, Pt.locs, Pt.cells, Pt.slots] at Xw15 l15 y15 z15 st15 hQ15 hsn15 hgr15
  subst l15 y15 z15
  obtain ⟨X15, hS15, hZ, hown⟩ := rebS hS0 hg14 Xw15 hsn15 hgr15 hZ hown
  obtain ⟨rfl, N15q, Kc15, c15_0, c15_1⟩ := hQ15
  have N15 := Fr.app N14 N15q
  have u15_0 := u14_0.keep Kc15
  have u15_2 := c14_0.keep Kc15
  have u15_3 := own_Str.keep c14_1 Kc15 u14_0 (by decide) (hw _ (List.mem_of_getElem? (i := 5) rfl))
  have OL15 := OL14.keep Kc15 (fun x hx => by cases List.mem_singleton.mp hx; exact ge13)
  have K15 := K14.trans Kc15 (fun x hx => by cases List.mem_singleton.mp hx; exact Or.inr sz13)
  have Z15 : n0 ≤ T15.heap.size := Nat.le_trans Z14 Kc15.1
  have hg15 := Nat.le_trans hg14 Kc15.1
  have hk15 : T15.heap.size ≤ T15.heap.size := Nat.le_refl _
  obtain ⟨_, _, ⟨T16, L16, k16, n16⟩, -, X16, ⟨Lc16, hQ16, l16, y16, z16⟩, st16⟩ := Jvm.LawKit.callS X15 hx (y := (⟨"com/example/hitotabi/hitotabi/IdempotencyKeyEqualsPinLaw", "mk", "(ICCC)Ljava/lang/String;"⟩ : MethodName)) hown (mvT hZ (hw _ (List.mem_of_getElem? (i := 7) rfl))) (mvT hZ (hw _ (List.mem_of_getElem? (i := 8) rfl))) (mvT hZ (hw _ (List.mem_of_getElem? (i := 2) rfl))) (mvT hZ (hw _ (List.mem_of_getElem? (i := 9) rfl))) (by decide) (backOf (W := 0) (rmmk l Z a0 hw [] ((1 : Int32) + (f0_1 p1 p2 p3 cz)) (f0_2 p1 p2 p3 cz) (f0_3 p1 p2 p3 cz) (f0_4 p1 p2 p3 cz) cz T15.heap n0 Z15 OL15 (by unfold f0_2; split <;> exact own_prpc _) (by unfold f0_3; split <;> exact own_prpc _) (by unfold f0_4; split <;> exact own_prpc _) hCS hcz) hZ (hw _ (List.mem_of_getElem? (i := 9) rfl)) (hw _ (List.mem_of_getElem? (i := 2) rfl)) (by decide) (by decide)) (g := (mkF m 134 #[.val (.int p1), .val (.int p2), .val (.int p3), .val (.int ((1 : Int32) + (f0_0 p1 p2 p3 cz))), .val (.int ((1 : Int32) + (f0_1 p1 p2 p3 cz))), .val (.int (fpc p1)), .val (.int (fpc (XT.ushr p1 (8 : Int32)))), .val (.int (fpc (XT.ushr p1 (16 : Int32)))), .val (.int (f0_2 p1 p2 p3 cz)), .val (.int (f0_3 p1 p2 p3 cz)), .val (.int (f0_4 p1 p2 p3 cz)), .val (.ref o13), .unset, .unset, .unset, .unset, .unset] [(.int (f0_4 p1 p2 p3 cz)), (.int (f0_3 p1 p2 p3 cz)), (.int (f0_2 p1 p2 p3 cz)), (.int ((1 : Int32) + (f0_1 p1 p2 p3 cz)))])) rfl (by rw [hml]; rfl) (argsL := [(.int ((1 : Int32) + (f0_1 p1 p2 p3 cz))), (.int (f0_2 p1 p2 p3 cz)), (.int (f0_3 p1 p2 p3 cz)), (.int (f0_4 p1 p2 p3 cz))]) (rest := []) (lenOf pd_10 rfl) rfl (by show 2 * 0 + _ ≤ _; exact Nat.le_of_eq rfl) (hb hby at_134) (fun _ _ => ⟨rfl, rfl, (by decide : 8 + 3 ≤ _), (by decide : 99 + 10 ≤ _)⟩)
  dsimp only [Pt.U, Pt.locs, Pt.cells, Pt.slots] at X16 l16 y16 z16 st16 hQ16
  subst l16 y16 z16
  obtain ⟨r16, rfl, N16q, Kc16, fr16_r, c16_0, c16_1⟩ := hQ16
  have N16 := Fr.app N15 N16q
  have ne16_r_1 : o13 ≠ r16 := Nat.ne_of_lt (Nat.lt_of_lt_of_le c15_0.lt fr16_r)
  have ne16_r_2 : r14 ≠ r16 := Nat.ne_of_lt (Nat.lt_of_lt_of_le u15_2.lt fr16_r)
  have ge16_r : n0 ≤ r16 := Nat.le_trans Z15 fr16_r
  have sz16_r : h0.size ≤ r16 := Nat.le_trans K15.1 fr16_r
  have u16_0 := c15_0.keep Kc16
  have u16_1 := u15_2.keep Kc16
  have u16_2 := u15_3.ext (own_extK Kc16)
  have u16_3 := c15_1.keep Kc16 (List.not_mem_nil)
  have OL16 := OL15.keep Kc16 (fun x hx => absurd hx List.not_mem_nil)
  have K16 := K15.trans Kc16 (fun x hx => absurd hx List.not_mem_nil)
  have Z16 : n0 ≤ T16.heap.size := Nat.le_trans Z15 Kc16.1
  have hg16 := Nat.le_trans hk15 Kc16.1
  have st32 : ∀ t, Steps p.tables e below (T16.setTop (mkF m 189 #[.val (.int p1), .val (.int p2), .val (.int p3), .val (.int ((1 : Int32) + (f0_0 p1 p2 p3 cz))), .val (.int ((1 : Int32) + (f0_1 p1 p2 p3 cz))), .val (.int (fpc p1)), .val (.int (fpc (XT.ushr p1 (8 : Int32)))), .val (.int (fpc (XT.ushr p1 (16 : Int32)))), .val (.int (f0_2 p1 p2 p3 cz)), .val (.int (f0_3 p1 p2 p3 cz)), .val (.int (f0_4 p1 p2 p3 cz)), .val (.ref o13), .val (.ref r16), .val (.int ((XT.ushr p3 (7 : Int32)) &&& (3 : Int32))), .unset, .unset, .unset] [(.int (f0_10 p1 p2 p3 cz))])) t → Steps p.tables e below (T16.setTop (mkF m 150 #[.val (.int p1), .val (.int p2), .val (.int p3), .val (.int ((1 : Int32) + (f0_0 p1 p2 p3 cz))), .val (.int ((1 : Int32) + (f0_1 p1 p2 p3 cz))), .val (.int (fpc p1)), .val (.int (fpc (XT.ushr p1 (8 : Int32)))), .val (.int (fpc (XT.ushr p1 (16 : Int32)))), .val (.int (f0_2 p1 p2 p3 cz)), .val (.int (f0_3 p1 p2 p3 cz)), .val (.int (f0_4 p1 p2 p3 cz)), .val (.ref o13), .val (.ref r16), .val (.int ((XT.ushr p3 (7 : Int32)) &&& (3 : Int32))), .unset, .unset, .unset] [(.int ((1 : Int32) + (f0_1 p1 p2 p3 cz))), (.int ((1 : Int32) + (f0_0 p1 p2 p3 cz)))])) t := by
    intro t k
    by_cases h17 : ((1 : Int32) + (f0_0 p1 p2 p3 cz)) = ((1 : Int32) + (f0_1 p1 p2 p3 cz))
    · have st31 : ∀ t, Steps p.tables e below (T16.setTop (mkF m 189 #[.val (.int p1), .val (.int p2), .val (.int p3), .val (.int ((1 : Int32) + (f0_0 p1 p2 p3 cz))), .val (.int ((1 : Int32) + (f0_1 p1 p2 p3 cz))), .val (.int (fpc p1)), .val (.int (fpc (XT.ushr p1 (8 : Int32)))), .val (.int (fpc (XT.ushr p1 (16 : Int32)))), .val (.int (f0_2 p1 p2 p3 cz)), .val (.int (f0_3 p1 p2 p3 cz)), .val (.int (f0_4 p1 p2 p3 cz)), .val (.ref o13), .val (.ref r16), .val (.int ((XT.ushr p3 (7 : Int32)) &&& (3 : Int32))), .unset, .unset, .unset] [(.int (f0_9 p1 p2 p3 cz))])) t → Steps p.tables e below (T16.setTop (mkF m 157 #[.val (.int p1), .val (.int p2), .val (.int p3), .val (.int ((1 : Int32) + (f0_0 p1 p2 p3 cz))), .val (.int ((1 : Int32) + (f0_1 p1 p2 p3 cz))), .val (.int (fpc p1)), .val (.int (fpc (XT.ushr p1 (8 : Int32)))), .val (.int (fpc (XT.ushr p1 (16 : Int32)))), .val (.int (f0_2 p1 p2 p3 cz)), .val (.int (f0_3 p1 p2 p3 cz)), .val (.int (f0_4 p1 p2 p3 cz)), .val (.ref o13), .val (.ref r16), .val (.int ((XT.ushr p3 (7 : Int32)) &&& (3 : Int32))), .unset, .unset, .unset] [(.int (f0_2 p1 p2 p3 cz)), (.int (fpc p1))])) t := by
        intro t k
        by_cases h18 : (fpc p1) = (f0_2 p1 p2 p3 cz)
        · have st30 : ∀ t, Steps p.tables e below (T16.setTop (mkF m 189 #[.val (.int p1), .val (.int p2), .val (.int p3), .val (.int ((1 : Int32) + (f0_0 p1 p2 p3 cz))), .val (.int ((1 : Int32) + (f0_1 p1 p2 p3 cz))), .val (.int (fpc p1)), .val (.int (fpc (XT.ushr p1 (8 : Int32)))), .val (.int (fpc (XT.ushr p1 (16 : Int32)))), .val (.int (f0_2 p1 p2 p3 cz)), .val (.int (f0_3 p1 p2 p3 cz)), .val (.int (f0_4 p1 p2 p3 cz)), .val (.ref o13), .val (.ref r16), .val (.int ((XT.ushr p3 (7 : Int32)) &&& (3 : Int32))), .unset, .unset, .unset] [(.int (f0_8 p1 p2 p3 cz))])) t → Steps p.tables e below (T16.setTop (mkF m 162 #[.val (.int p1), .val (.int p2), .val (.int p3), .val (.int ((1 : Int32) + (f0_0 p1 p2 p3 cz))), .val (.int ((1 : Int32) + (f0_1 p1 p2 p3 cz))), .val (.int (fpc p1)), .val (.int (fpc (XT.ushr p1 (8 : Int32)))), .val (.int (fpc (XT.ushr p1 (16 : Int32)))), .val (.int (f0_2 p1 p2 p3 cz)), .val (.int (f0_3 p1 p2 p3 cz)), .val (.int (f0_4 p1 p2 p3 cz)), .val (.ref o13), .val (.ref r16), .val (.int ((XT.ushr p3 (7 : Int32)) &&& (3 : Int32))), .unset, .unset, .unset] [(.int (2 : Int32)), (.int ((1 : Int32) + (f0_0 p1 p2 p3 cz)))])) t := by
            intro t k
            by_cases h19 : ((1 : Int32) + (f0_0 p1 p2 p3 cz)) < (2 : Int32)
            · have st23 : ∀ t, Steps p.tables e below (T16.setTop (mkF m 189 #[.val (.int p1), .val (.int p2), .val (.int p3), .val (.int ((1 : Int32) + (f0_0 p1 p2 p3 cz))), .val (.int ((1 : Int32) + (f0_1 p1 p2 p3 cz))), .val (.int (fpc p1)), .val (.int (fpc (XT.ushr p1 (8 : Int32)))), .val (.int (fpc (XT.ushr p1 (16 : Int32)))), .val (.int (f0_2 p1 p2 p3 cz)), .val (.int (f0_3 p1 p2 p3 cz)), .val (.int (f0_4 p1 p2 p3 cz)), .val (.ref o13), .val (.ref r16), .val (.int ((XT.ushr p3 (7 : Int32)) &&& (3 : Int32))), .unset, .unset, .unset] [(.int (f0_6 p1 p2 p3 cz))])) t → Steps p.tables e below (T16.setTop (mkF m 174 #[.val (.int p1), .val (.int p2), .val (.int p3), .val (.int ((1 : Int32) + (f0_0 p1 p2 p3 cz))), .val (.int ((1 : Int32) + (f0_1 p1 p2 p3 cz))), .val (.int (fpc p1)), .val (.int (fpc (XT.ushr p1 (8 : Int32)))), .val (.int (fpc (XT.ushr p1 (16 : Int32)))), .val (.int (f0_2 p1 p2 p3 cz)), .val (.int (f0_3 p1 p2 p3 cz)), .val (.int (f0_4 p1 p2 p3 cz)), .val (.ref o13), .val (.ref r16), .val (.int ((XT.ushr p3 (7 : Int32)) &&& (3 : Int32))), .unset, .unset, .unset] [(.int (3 : Int32)), (.int ((1 : Int32) + (f0_0 p1 p2 p3 cz)))])) t := by
                intro t k
                by_cases h20 : ((1 : Int32) + (f0_0 p1 p2 p3 cz)) < (3 : Int32)
                · rw [show (f0_6 p1 p2 p3 cz) = (1 : Int32) from if_pos h20] at k
                  show Steps p.tables e below (T16.setTop (mkF m 174 #[.val (.int p1), .val (.int p2), .val (.int p3), .val (.int ((1 : Int32) + (f0_0 p1 p2 p3 cz))), .val (.int ((1 : Int32) + (f0_1 p1 p2 p3 cz))), .val (.int (fpc p1)), .val (.int (fpc (XT.ushr p1 (8 : Int32)))), .val (.int (fpc (XT.ushr p1 (16 : Int32)))), .val (.int (f0_2 p1 p2 p3 cz)), .val (.int (f0_3 p1 p2 p3 cz)), .val (.int (f0_4 p1 p2 p3 cz)), .val (.ref o13), .val (.ref r16), .val (.int ((XT.ushr p3 (7 : Int32)) &&& (3 : Int32))), .unset, .unset, .unset] [(.int (3 : Int32)), (.int ((1 : Int32) + (f0_0 p1 p2 p3 cz)))])) _
                  refine XS.icmpYes X16.here hx rfl (pc0 := 174) (pc' := 184) rfl (hb hby at_174) rfl (tlt h20).1 (by decide) (by decide) ?_
                  show Steps p.tables e below (T16.setTop (mkF m 184 #[.val (.int p1), .val (.int p2), .val (.int p3), .val (.int ((1 : Int32) + (f0_0 p1 p2 p3 cz))), .val (.int ((1 : Int32) + (f0_1 p1 p2 p3 cz))), .val (.int (fpc p1)), .val (.int (fpc (XT.ushr p1 (8 : Int32)))), .val (.int (fpc (XT.ushr p1 (16 : Int32)))), .val (.int (f0_2 p1 p2 p3 cz)), .val (.int (f0_3 p1 p2 p3 cz)), .val (.int (f0_4 p1 p2 p3 cz)), .val (.ref o13), .val (.ref r16), .val (.int ((XT.ushr p3 (7 : Int32)) &&& (3 : Int32))), .unset, .unset, .unset] [])) _
                  refine XS.iconst X16.here hx rfl (hb hby at_184) ?_
                  show Steps p.tables e below (T16.setTop (mkF m 185 #[.val (.int p1), .val (.int p2), .val (.int p3), .val (.int ((1 : Int32) + (f0_0 p1 p2 p3 cz))), .val (.int ((1 : Int32) + (f0_1 p1 p2 p3 cz))), .val (.int (fpc p1)), .val (.int (fpc (XT.ushr p1 (8 : Int32)))), .val (.int (fpc (XT.ushr p1 (16 : Int32)))), .val (.int (f0_2 p1 p2 p3 cz)), .val (.int (f0_3 p1 p2 p3 cz)), .val (.int (f0_4 p1 p2 p3 cz)), .val (.ref o13), .val (.ref r16), .val (.int ((XT.ushr p3 (7 : Int32)) &&& (3 : Int32))), .unset, .unset, .unset] [(.int (1 : Int32))])) _
                  refine XS.goto X16.here hx rfl (pc0 := 185) (pc' := 189) rfl (hb hby at_185) (by decide) (by decide) ?_
                  exact k
                · have st22 : ∀ t, Steps p.tables e below (T16.setTop (mkF m 189 #[.val (.int p1), .val (.int p2), .val (.int p3), .val (.int ((1 : Int32) + (f0_0 p1 p2 p3 cz))), .val (.int ((1 : Int32) + (f0_1 p1 p2 p3 cz))), .val (.int (fpc p1)), .val (.int (fpc (XT.ushr p1 (8 : Int32)))), .val (.int (fpc (XT.ushr p1 (16 : Int32)))), .val (.int (f0_2 p1 p2 p3 cz)), .val (.int (f0_3 p1 p2 p3 cz)), .val (.int (f0_4 p1 p2 p3 cz)), .val (.ref o13), .val (.ref r16), .val (.int ((XT.ushr p3 (7 : Int32)) &&& (3 : Int32))), .unset, .unset, .unset] [(.int (f0_5 p1 p2 p3 cz))])) t → Steps p.tables e below (T16.setTop (mkF m 181 #[.val (.int p1), .val (.int p2), .val (.int p3), .val (.int ((1 : Int32) + (f0_0 p1 p2 p3 cz))), .val (.int ((1 : Int32) + (f0_1 p1 p2 p3 cz))), .val (.int (fpc p1)), .val (.int (fpc (XT.ushr p1 (8 : Int32)))), .val (.int (fpc (XT.ushr p1 (16 : Int32)))), .val (.int (f0_2 p1 p2 p3 cz)), .val (.int (f0_3 p1 p2 p3 cz)), .val (.int (f0_4 p1 p2 p3 cz)), .val (.ref o13), .val (.ref r16), .val (.int ((XT.ushr p3 (7 : Int32)) &&& (3 : Int32))), .unset, .unset, .unset] [(.int (f0_4 p1 p2 p3 cz)), (.int (fpc (XT.ushr p1 (16 : Int32))))])) t := by
                    intro t k
                    by_cases h21 : (fpc (XT.ushr p1 (16 : Int32))) = (f0_4 p1 p2 p3 cz)
                    · rw [show (f0_5 p1 p2 p3 cz) = (1 : Int32) from if_pos h21] at k
                      show Steps p.tables e below (T16.setTop (mkF m 181 #[.val (.int p1), .val (.int p2), .val (.int p3), .val (.int ((1 : Int32) + (f0_0 p1 p2 p3 cz))), .val (.int ((1 : Int32) + (f0_1 p1 p2 p3 cz))), .val (.int (fpc p1)), .val (.int (fpc (XT.ushr p1 (8 : Int32)))), .val (.int (fpc (XT.ushr p1 (16 : Int32)))), .val (.int (f0_2 p1 p2 p3 cz)), .val (.int (f0_3 p1 p2 p3 cz)), .val (.int (f0_4 p1 p2 p3 cz)), .val (.ref o13), .val (.ref r16), .val (.int ((XT.ushr p3 (7 : Int32)) &&& (3 : Int32))), .unset, .unset, .unset] [(.int (f0_4 p1 p2 p3 cz)), (.int (fpc (XT.ushr p1 (16 : Int32))))])) _
                      refine XS.icmpNo X16.here hx rfl (hb hby at_181) rfl (teq h21).2 ?_
                      show Steps p.tables e below (T16.setTop (mkF m 184 #[.val (.int p1), .val (.int p2), .val (.int p3), .val (.int ((1 : Int32) + (f0_0 p1 p2 p3 cz))), .val (.int ((1 : Int32) + (f0_1 p1 p2 p3 cz))), .val (.int (fpc p1)), .val (.int (fpc (XT.ushr p1 (8 : Int32)))), .val (.int (fpc (XT.ushr p1 (16 : Int32)))), .val (.int (f0_2 p1 p2 p3 cz)), .val (.int (f0_3 p1 p2 p3 cz)), .val (.int (f0_4 p1 p2 p3 cz)), .val (.ref o13), .val (.ref r16), .val (.int ((XT.ushr p3 (7 : Int32)) &&& (3 : Int32))), .unset, .unset, .unset] [])) _
                      refine XS.iconst X16.here hx rfl (hb hby at_184) ?_
                      show Steps p.tables e below (T16.setTop (mkF m 185 #[.val (.int p1), .val (.int p2), .val (.int p3), .val (.int ((1 : Int32) + (f0_0 p1 p2 p3 cz))), .val (.int ((1 : Int32) + (f0_1 p1 p2 p3 cz))), .val (.int (fpc p1)), .val (.int (fpc (XT.ushr p1 (8 : Int32)))), .val (.int (fpc (XT.ushr p1 (16 : Int32)))), .val (.int (f0_2 p1 p2 p3 cz)), .val (.int (f0_3 p1 p2 p3 cz)), .val (.int (f0_4 p1 p2 p3 cz)), .val (.ref o13), .val (.ref r16), .val (.int ((XT.ushr p3 (7 : Int32)) &&& (3 : Int32))), .unset, .unset, .unset] [(.int (1 : Int32))])) _
                      refine XS.goto X16.here hx rfl (pc0 := 185) (pc' := 189) rfl (hb hby at_185) (by decide) (by decide) ?_
                      exact k
                    · rw [show (f0_5 p1 p2 p3 cz) = (0 : Int32) from if_neg h21] at k
                      show Steps p.tables e below (T16.setTop (mkF m 181 #[.val (.int p1), .val (.int p2), .val (.int p3), .val (.int ((1 : Int32) + (f0_0 p1 p2 p3 cz))), .val (.int ((1 : Int32) + (f0_1 p1 p2 p3 cz))), .val (.int (fpc p1)), .val (.int (fpc (XT.ushr p1 (8 : Int32)))), .val (.int (fpc (XT.ushr p1 (16 : Int32)))), .val (.int (f0_2 p1 p2 p3 cz)), .val (.int (f0_3 p1 p2 p3 cz)), .val (.int (f0_4 p1 p2 p3 cz)), .val (.ref o13), .val (.ref r16), .val (.int ((XT.ushr p3 (7 : Int32)) &&& (3 : Int32))), .unset, .unset, .unset] [(.int (f0_4 p1 p2 p3 cz)), (.int (fpc (XT.ushr p1 (16 : Int32))))])) _
                      refine XS.icmpYes X16.here hx rfl (pc0 := 181) (pc' := 188) rfl (hb hby at_181) rfl (feq h21).2 (by decide) (by decide) ?_
                      show Steps p.tables e below (T16.setTop (mkF m 188 #[.val (.int p1), .val (.int p2), .val (.int p3), .val (.int ((1 : Int32) + (f0_0 p1 p2 p3 cz))), .val (.int ((1 : Int32) + (f0_1 p1 p2 p3 cz))), .val (.int (fpc p1)), .val (.int (fpc (XT.ushr p1 (8 : Int32)))), .val (.int (fpc (XT.ushr p1 (16 : Int32)))), .val (.int (f0_2 p1 p2 p3 cz)), .val (.int (f0_3 p1 p2 p3 cz)), .val (.int (f0_4 p1 p2 p3 cz)), .val (.ref o13), .val (.ref r16), .val (.int ((XT.ushr p3 (7 : Int32)) &&& (3 : Int32))), .unset, .unset, .unset] [])) _
                      refine XS.iconst X16.here hx rfl (hb hby at_188) ?_
                      exact k
                  rw [show (f0_6 p1 p2 p3 cz) = (f0_5 p1 p2 p3 cz) from if_neg h20] at k
                  show Steps p.tables e below (T16.setTop (mkF m 174 #[.val (.int p1), .val (.int p2), .val (.int p3), .val (.int ((1 : Int32) + (f0_0 p1 p2 p3 cz))), .val (.int ((1 : Int32) + (f0_1 p1 p2 p3 cz))), .val (.int (fpc p1)), .val (.int (fpc (XT.ushr p1 (8 : Int32)))), .val (.int (fpc (XT.ushr p1 (16 : Int32)))), .val (.int (f0_2 p1 p2 p3 cz)), .val (.int (f0_3 p1 p2 p3 cz)), .val (.int (f0_4 p1 p2 p3 cz)), .val (.ref o13), .val (.ref r16), .val (.int ((XT.ushr p3 (7 : Int32)) &&& (3 : Int32))), .unset, .unset, .unset] [(.int (3 : Int32)), (.int ((1 : Int32) + (f0_0 p1 p2 p3 cz)))])) _
                  refine XS.icmpNo X16.here hx rfl (hb hby at_174) rfl (flt h20).1 ?_
                  show Steps p.tables e below (T16.setTop (mkF m 177 #[.val (.int p1), .val (.int p2), .val (.int p3), .val (.int ((1 : Int32) + (f0_0 p1 p2 p3 cz))), .val (.int ((1 : Int32) + (f0_1 p1 p2 p3 cz))), .val (.int (fpc p1)), .val (.int (fpc (XT.ushr p1 (8 : Int32)))), .val (.int (fpc (XT.ushr p1 (16 : Int32)))), .val (.int (f0_2 p1 p2 p3 cz)), .val (.int (f0_3 p1 p2 p3 cz)), .val (.int (f0_4 p1 p2 p3 cz)), .val (.ref o13), .val (.ref r16), .val (.int ((XT.ushr p3 (7 : Int32)) &&& (3 : Int32))), .unset, .unset, .unset] [])) _
                  refine XS.iload X16.here hx rfl (hb hby at_177) rfl ?_
                  show Steps p.tables e below (T16.setTop (mkF m 179 #[.val (.int p1), .val (.int p2), .val (.int p3), .val (.int ((1 : Int32) + (f0_0 p1 p2 p3 cz))), .val (.int ((1 : Int32) + (f0_1 p1 p2 p3 cz))), .val (.int (fpc p1)), .val (.int (fpc (XT.ushr p1 (8 : Int32)))), .val (.int (fpc (XT.ushr p1 (16 : Int32)))), .val (.int (f0_2 p1 p2 p3 cz)), .val (.int (f0_3 p1 p2 p3 cz)), .val (.int (f0_4 p1 p2 p3 cz)), .val (.ref o13), .val (.ref r16), .val (.int ((XT.ushr p3 (7 : Int32)) &&& (3 : Int32))), .unset, .unset, .unset] [(.int (fpc (XT.ushr p1 (16 : Int32))))])) _
                  refine XS.iload X16.here hx rfl (hb hby at_179) rfl ?_
                  show Steps p.tables e below (T16.setTop (mkF m 181 #[.val (.int p1), .val (.int p2), .val (.int p3), .val (.int ((1 : Int32) + (f0_0 p1 p2 p3 cz))), .val (.int ((1 : Int32) + (f0_1 p1 p2 p3 cz))), .val (.int (fpc p1)), .val (.int (fpc (XT.ushr p1 (8 : Int32)))), .val (.int (fpc (XT.ushr p1 (16 : Int32)))), .val (.int (f0_2 p1 p2 p3 cz)), .val (.int (f0_3 p1 p2 p3 cz)), .val (.int (f0_4 p1 p2 p3 cz)), .val (.ref o13), .val (.ref r16), .val (.int ((XT.ushr p3 (7 : Int32)) &&& (3 : Int32))), .unset, .unset, .unset] [(.int (f0_4 p1 p2 p3 cz)), (.int (fpc (XT.ushr p1 (16 : Int32))))])) _
                  refine st22 _ ?_
                  exact k
              rw [show (f0_8 p1 p2 p3 cz) = (f0_6 p1 p2 p3 cz) from if_pos h19] at k
              show Steps p.tables e below (T16.setTop (mkF m 162 #[.val (.int p1), .val (.int p2), .val (.int p3), .val (.int ((1 : Int32) + (f0_0 p1 p2 p3 cz))), .val (.int ((1 : Int32) + (f0_1 p1 p2 p3 cz))), .val (.int (fpc p1)), .val (.int (fpc (XT.ushr p1 (8 : Int32)))), .val (.int (fpc (XT.ushr p1 (16 : Int32)))), .val (.int (f0_2 p1 p2 p3 cz)), .val (.int (f0_3 p1 p2 p3 cz)), .val (.int (f0_4 p1 p2 p3 cz)), .val (.ref o13), .val (.ref r16), .val (.int ((XT.ushr p3 (7 : Int32)) &&& (3 : Int32))), .unset, .unset, .unset] [(.int (2 : Int32)), (.int ((1 : Int32) + (f0_0 p1 p2 p3 cz)))])) _
              refine XS.icmpYes X16.here hx rfl (pc0 := 162) (pc' := 172) rfl (hb hby at_162) rfl (tlt h19).1 (by decide) (by decide) ?_
              show Steps p.tables e below (T16.setTop (mkF m 172 #[.val (.int p1), .val (.int p2), .val (.int p3), .val (.int ((1 : Int32) + (f0_0 p1 p2 p3 cz))), .val (.int ((1 : Int32) + (f0_1 p1 p2 p3 cz))), .val (.int (fpc p1)), .val (.int (fpc (XT.ushr p1 (8 : Int32)))), .val (.int (fpc (XT.ushr p1 (16 : Int32)))), .val (.int (f0_2 p1 p2 p3 cz)), .val (.int (f0_3 p1 p2 p3 cz)), .val (.int (f0_4 p1 p2 p3 cz)), .val (.ref o13), .val (.ref r16), .val (.int ((XT.ushr p3 (7 : Int32)) &&& (3 : Int32))), .unset, .unset, .unset] [])) _
              refine XS.iloadN X16.here hx rfl (hb hby at_172) rfl ?_
              show Steps p.tables e below (T16.setTop (mkF m 173 #[.val (.int p1), .val (.int p2), .val (.int p3), .val (.int ((1 : Int32) + (f0_0 p1 p2 p3 cz))), .val (.int ((1 : Int32) + (f0_1 p1 p2 p3 cz))), .val (.int (fpc p1)), .val (.int (fpc (XT.ushr p1 (8 : Int32)))), .val (.int (fpc (XT.ushr p1 (16 : Int32)))), .val (.int (f0_2 p1 p2 p3 cz)), .val (.int (f0_3 p1 p2 p3 cz)), .val (.int (f0_4 p1 p2 p3 cz)), .val (.ref o13), .val (.ref r16), .val (.int ((XT.ushr p3 (7 : Int32)) &&& (3 : Int32))), .unset, .unset, .unset] [(.int ((1 : Int32) + (f0_0 p1 p2 p3 cz)))])) _
              refine XS.iconst X16.here hx rfl (hb hby at_173) ?_
              show Steps p.tables e below (T16.setTop (mkF m 174 #[.val (.int p1), .val (.int p2), .val (.int p3), .val (.int ((1 : Int32) + (f0_0 p1 p2 p3 cz))), .val (.int ((1 : Int32) + (f0_1 p1 p2 p3 cz))), .val (.int (fpc p1)), .val (.int (fpc (XT.ushr p1 (8 : Int32)))), .val (.int (fpc (XT.ushr p1 (16 : Int32)))), .val (.int (f0_2 p1 p2 p3 cz)), .val (.int (f0_3 p1 p2 p3 cz)), .val (.int (f0_4 p1 p2 p3 cz)), .val (.ref o13), .val (.ref r16), .val (.int ((XT.ushr p3 (7 : Int32)) &&& (3 : Int32))), .unset, .unset, .unset] [(.int (3 : Int32)), (.int ((1 : Int32) + (f0_0 p1 p2 p3 cz)))])) _
              refine st23 _ ?_
              exact k
            · have st29 : ∀ t, Steps p.tables e below (T16.setTop (mkF m 189 #[.val (.int p1), .val (.int p2), .val (.int p3), .val (.int ((1 : Int32) + (f0_0 p1 p2 p3 cz))), .val (.int ((1 : Int32) + (f0_1 p1 p2 p3 cz))), .val (.int (fpc p1)), .val (.int (fpc (XT.ushr p1 (8 : Int32)))), .val (.int (fpc (XT.ushr p1 (16 : Int32)))), .val (.int (f0_2 p1 p2 p3 cz)), .val (.int (f0_3 p1 p2 p3 cz)), .val (.int (f0_4 p1 p2 p3 cz)), .val (.ref o13), .val (.ref r16), .val (.int ((XT.ushr p3 (7 : Int32)) &&& (3 : Int32))), .unset, .unset, .unset] [(.int (f0_7 p1 p2 p3 cz))])) t → Steps p.tables e below (T16.setTop (mkF m 169 #[.val (.int p1), .val (.int p2), .val (.int p3), .val (.int ((1 : Int32) + (f0_0 p1 p2 p3 cz))), .val (.int ((1 : Int32) + (f0_1 p1 p2 p3 cz))), .val (.int (fpc p1)), .val (.int (fpc (XT.ushr p1 (8 : Int32)))), .val (.int (fpc (XT.ushr p1 (16 : Int32)))), .val (.int (f0_2 p1 p2 p3 cz)), .val (.int (f0_3 p1 p2 p3 cz)), .val (.int (f0_4 p1 p2 p3 cz)), .val (.ref o13), .val (.ref r16), .val (.int ((XT.ushr p3 (7 : Int32)) &&& (3 : Int32))), .unset, .unset, .unset] [(.int (f0_3 p1 p2 p3 cz)), (.int (fpc (XT.ushr p1 (8 : Int32))))])) t := by
                intro t k
                by_cases h24 : (fpc (XT.ushr p1 (8 : Int32))) = (f0_3 p1 p2 p3 cz)
                · have st28 : ∀ t, Steps p.tables e below (T16.setTop (mkF m 189 #[.val (.int p1), .val (.int p2), .val (.int p3), .val (.int ((1 : Int32) + (f0_0 p1 p2 p3 cz))), .val (.int ((1 : Int32) + (f0_1 p1 p2 p3 cz))), .val (.int (fpc p1)), .val (.int (fpc (XT.ushr p1 (8 : Int32)))), .val (.int (fpc (XT.ushr p1 (16 : Int32)))), .val (.int (f0_2 p1 p2 p3 cz)), .val (.int (f0_3 p1 p2 p3 cz)), .val (.int (f0_4 p1 p2 p3 cz)), .val (.ref o13), .val (.ref r16), .val (.int ((XT.ushr p3 (7 : Int32)) &&& (3 : Int32))), .unset, .unset, .unset] [(.int (f0_6 p1 p2 p3 cz))])) t → Steps p.tables e below (T16.setTop (mkF m 174 #[.val (.int p1), .val (.int p2), .val (.int p3), .val (.int ((1 : Int32) + (f0_0 p1 p2 p3 cz))), .val (.int ((1 : Int32) + (f0_1 p1 p2 p3 cz))), .val (.int (fpc p1)), .val (.int (fpc (XT.ushr p1 (8 : Int32)))), .val (.int (fpc (XT.ushr p1 (16 : Int32)))), .val (.int (f0_2 p1 p2 p3 cz)), .val (.int (f0_3 p1 p2 p3 cz)), .val (.int (f0_4 p1 p2 p3 cz)), .val (.ref o13), .val (.ref r16), .val (.int ((XT.ushr p3 (7 : Int32)) &&& (3 : Int32))), .unset, .unset, .unset] [(.int (3 : Int32)), (.int ((1 : Int32) + (f0_0 p1 p2 p3 cz)))])) t := by
                    intro t k
                    by_cases h25 : ((1 : Int32) + (f0_0 p1 p2 p3 cz)) < (3 : Int32)
                    · rw [show (f0_6 p1 p2 p3 cz) = (1 : Int32) from if_pos h25] at k
                      show Steps p.tables e below (T16.setTop (mkF m 174 #[.val (.int p1), .val (.int p2), .val (.int p3), .val (.int ((1 : Int32) + (f0_0 p1 p2 p3 cz))), .val (.int ((1 : Int32) + (f0_1 p1 p2 p3 cz))), .val (.int (fpc p1)), .val (.int (fpc (XT.ushr p1 (8 : Int32)))), .val (.int (fpc (XT.ushr p1 (16 : Int32)))), .val (.int (f0_2 p1 p2 p3 cz)), .val (.int (f0_3 p1 p2 p3 cz)), .val (.int (f0_4 p1 p2 p3 cz)), .val (.ref o13), .val (.ref r16), .val (.int ((XT.ushr p3 (7 : Int32)) &&& (3 : Int32))), .unset, .unset, .unset] [(.int (3 : Int32)), (.int ((1 : Int32) + (f0_0 p1 p2 p3 cz)))])) _
                      refine XS.icmpYes X16.here hx rfl (pc0 := 174) (pc' := 184) rfl (hb hby at_174) rfl (tlt h25).1 (by decide) (by decide) ?_
                      show Steps p.tables e below (T16.setTop (mkF m 184 #[.val (.int p1), .val (.int p2), .val (.int p3), .val (.int ((1 : Int32) + (f0_0 p1 p2 p3 cz))), .val (.int ((1 : Int32) + (f0_1 p1 p2 p3 cz))), .val (.int (fpc p1)), .val (.int (fpc (XT.ushr p1 (8 : Int32)))), .val (.int (fpc (XT.ushr p1 (16 : Int32)))), .val (.int (f0_2 p1 p2 p3 cz)), .val (.int (f0_3 p1 p2 p3 cz)), .val (.int (f0_4 p1 p2 p3 cz)), .val (.ref o13), .val (.ref r16), .val (.int ((XT.ushr p3 (7 : Int32)) &&& (3 : Int32))), .unset, .unset, .unset] [])) _
                      refine XS.iconst X16.here hx rfl (hb hby at_184) ?_
                      show Steps p.tables e below (T16.setTop (mkF m 185 #[.val (.int p1), .val (.int p2), .val (.int p3), .val (.int ((1 : Int32) + (f0_0 p1 p2 p3 cz))), .val (.int ((1 : Int32) + (f0_1 p1 p2 p3 cz))), .val (.int (fpc p1)), .val (.int (fpc (XT.ushr p1 (8 : Int32)))), .val (.int (fpc (XT.ushr p1 (16 : Int32)))), .val (.int (f0_2 p1 p2 p3 cz)), .val (.int (f0_3 p1 p2 p3 cz)), .val (.int (f0_4 p1 p2 p3 cz)), .val (.ref o13), .val (.ref r16), .val (.int ((XT.ushr p3 (7 : Int32)) &&& (3 : Int32))), .unset, .unset, .unset] [(.int (1 : Int32))])) _
                      refine XS.goto X16.here hx rfl (pc0 := 185) (pc' := 189) rfl (hb hby at_185) (by decide) (by decide) ?_
                      exact k
                    · have st27 : ∀ t, Steps p.tables e below (T16.setTop (mkF m 189 #[.val (.int p1), .val (.int p2), .val (.int p3), .val (.int ((1 : Int32) + (f0_0 p1 p2 p3 cz))), .val (.int ((1 : Int32) + (f0_1 p1 p2 p3 cz))), .val (.int (fpc p1)), .val (.int (fpc (XT.ushr p1 (8 : Int32)))), .val (.int (fpc (XT.ushr p1 (16 : Int32)))), .val (.int (f0_2 p1 p2 p3 cz)), .val (.int (f0_3 p1 p2 p3 cz)), .val (.int (f0_4 p1 p2 p3 cz)), .val (.ref o13), .val (.ref r16), .val (.int ((XT.ushr p3 (7 : Int32)) &&& (3 : Int32))), .unset, .unset, .unset] [(.int (f0_5 p1 p2 p3 cz))])) t → Steps p.tables e below (T16.setTop (mkF m 181 #[.val (.int p1), .val (.int p2), .val (.int p3), .val (.int ((1 : Int32) + (f0_0 p1 p2 p3 cz))), .val (.int ((1 : Int32) + (f0_1 p1 p2 p3 cz))), .val (.int (fpc p1)), .val (.int (fpc (XT.ushr p1 (8 : Int32)))), .val (.int (fpc (XT.ushr p1 (16 : Int32)))), .val (.int (f0_2 p1 p2 p3 cz)), .val (.int (f0_3 p1 p2 p3 cz)), .val (.int (f0_4 p1 p2 p3 cz)), .val (.ref o13), .val (.ref r16), .val (.int ((XT.ushr p3 (7 : Int32)) &&& (3 : Int32))), .unset, .unset, .unset] [(.int (f0_4 p1 p2 p3 cz)), (.int (fpc (XT.ushr p1 (16 : Int32))))])) t := by
                        intro t k
                        by_cases h26 : (fpc (XT.ushr p1 (16 : Int32))) = (f0_4 p1 p2 p3 cz)
                        · rw [show (f0_5 p1 p2 p3 cz) = (1 : Int32) from if_pos h26] at k
                          show Steps p.tables e below (T16.setTop (mkF m 181 #[.val (.int p1), .val (.int p2), .val (.int p3), .val (.int ((1 : Int32) + (f0_0 p1 p2 p3 cz))), .val (.int ((1 : Int32) + (f0_1 p1 p2 p3 cz))), .val (.int (fpc p1)), .val (.int (fpc (XT.ushr p1 (8 : Int32)))), .val (.int (fpc (XT.ushr p1 (16 : Int32)))), .val (.int (f0_2 p1 p2 p3 cz)), .val (.int (f0_3 p1 p2 p3 cz)), .val (.int (f0_4 p1 p2 p3 cz)), .val (.ref o13), .val (.ref r16), .val (.int ((XT.ushr p3 (7 : Int32)) &&& (3 : Int32))), .unset, .unset, .unset] [(.int (f0_4 p1 p2 p3 cz)), (.int (fpc (XT.ushr p1 (16 : Int32))))])) _
                          refine XS.icmpNo X16.here hx rfl (hb hby at_181) rfl (teq h26).2 ?_
                          show Steps p.tables e below (T16.setTop (mkF m 184 #[.val (.int p1), .val (.int p2), .val (.int p3), .val (.int ((1 : Int32) + (f0_0 p1 p2 p3 cz))), .val (.int ((1 : Int32) + (f0_1 p1 p2 p3 cz))), .val (.int (fpc p1)), .val (.int (fpc (XT.ushr p1 (8 : Int32)))), .val (.int (fpc (XT.ushr p1 (16 : Int32)))), .val (.int (f0_2 p1 p2 p3 cz)), .val (.int (f0_3 p1 p2 p3 cz)), .val (.int (f0_4 p1 p2 p3 cz)), .val (.ref o13), .val (.ref r16), .val (.int ((XT.ushr p3 (7 : Int32)) &&& (3 : Int32))), .unset, .unset, .unset] [])) _
                          refine XS.iconst X16.here hx rfl (hb hby at_184) ?_
                          show Steps p.tables e below (T16.setTop (mkF m 185 #[.val (.int p1), .val (.int p2), .val (.int p3), .val (.int ((1 : Int32) + (f0_0 p1 p2 p3 cz))), .val (.int ((1 : Int32) + (f0_1 p1 p2 p3 cz))), .val (.int (fpc p1)), .val (.int (fpc (XT.ushr p1 (8 : Int32)))), .val (.int (fpc (XT.ushr p1 (16 : Int32)))), .val (.int (f0_2 p1 p2 p3 cz)), .val (.int (f0_3 p1 p2 p3 cz)), .val (.int (f0_4 p1 p2 p3 cz)), .val (.ref o13), .val (.ref r16), .val (.int ((XT.ushr p3 (7 : Int32)) &&& (3 : Int32))), .unset, .unset, .unset] [(.int (1 : Int32))])) _
                          refine XS.goto X16.here hx rfl (pc0 := 185) (pc' := 189) rfl (hb hby at_185) (by decide) (by decide) ?_
                          exact k
                        · rw [show (f0_5 p1 p2 p3 cz) = (0 : Int32) from if_neg h26] at k
                          show Steps p.tables e below (T16.setTop (mkF m 181 #[.val (.int p1), .val (.int p2), .val (.int p3), .val (.int ((1 : Int32) + (f0_0 p1 p2 p3 cz))), .val (.int ((1 : Int32) + (f0_1 p1 p2 p3 cz))), .val (.int (fpc p1)), .val (.int (fpc (XT.ushr p1 (8 : Int32)))), .val (.int (fpc (XT.ushr p1 (16 : Int32)))), .val (.int (f0_2 p1 p2 p3 cz)), .val (.int (f0_3 p1 p2 p3 cz)), .val (.int (f0_4 p1 p2 p3 cz)), .val (.ref o13), .val (.ref r16), .val (.int ((XT.ushr p3 (7 : Int32)) &&& (3 : Int32))), .unset, .unset, .unset] [(.int (f0_4 p1 p2 p3 cz)), (.int (fpc (XT.ushr p1 (16 : Int32))))])) _
                          refine XS.icmpYes X16.here hx rfl (pc0 := 181) (pc' := 188) rfl (hb hby at_181) rfl (feq h26).2 (by decide) (by decide) ?_
                          show Steps p.tables e below (T16.setTop (mkF m 188 #[.val (.int p1), .val (.int p2), .val (.int p3), .val (.int ((1 : Int32) + (f0_0 p1 p2 p3 cz))), .val (.int ((1 : Int32) + (f0_1 p1 p2 p3 cz))), .val (.int (fpc p1)), .val (.int (fpc (XT.ushr p1 (8 : Int32)))), .val (.int (fpc (XT.ushr p1 (16 : Int32)))), .val (.int (f0_2 p1 p2 p3 cz)), .val (.int (f0_3 p1 p2 p3 cz)), .val (.int (f0_4 p1 p2 p3 cz)), .val (.ref o13), .val (.ref r16), .val (.int ((XT.ushr p3 (7 : Int32)) &&& (3 : Int32))), .unset, .unset, .unset] [])) _
                          refine XS.iconst X16.here hx rfl (hb hby at_188) ?_
                          exact k
                      rw [show (f0_6 p1 p2 p3 cz) = (f0_5 p1 p2 p3 cz) from if_neg h25] at k
                      show Steps p.tables e below (T16.setTop (mkF m 174 #[.val (.int p1), .val (.int p2), .val (.int p3), .val (.int ((1 : Int32) + (f0_0 p1 p2 p3 cz))), .val (.int ((1 : Int32) + (f0_1 p1 p2 p3 cz))), .val (.int (fpc p1)), .val (.int (fpc (XT.ushr p1 (8 : Int32)))), .val (.int (fpc (XT.ushr p1 (16 : Int32)))), .val (.int (f0_2 p1 p2 p3 cz)), .val (.int (f0_3 p1 p2 p3 cz)), .val (.int (f0_4 p1 p2 p3 cz)), .val (.ref o13), .val (.ref r16), .val (.int ((XT.ushr p3 (7 : Int32)) &&& (3 : Int32))), .unset, .unset, .unset] [(.int (3 : Int32)), (.int ((1 : Int32) + (f0_0 p1 p2 p3 cz)))])) _
                      refine XS.icmpNo X16.here hx rfl (hb hby at_174) rfl (flt h25).1 ?_
                      show Steps p.tables e below (T16.setTop (mkF m 177 #[.val (.int p1), .val (.int p2), .val (.int p3), .val (.int ((1 : Int32) + (f0_0 p1 p2 p3 cz))), .val (.int ((1 : Int32) + (f0_1 p1 p2 p3 cz))), .val (.int (fpc p1)), .val (.int (fpc (XT.ushr p1 (8 : Int32)))), .val (.int (fpc (XT.ushr p1 (16 : Int32)))), .val (.int (f0_2 p1 p2 p3 cz)), .val (.int (f0_3 p1 p2 p3 cz)), .val (.int (f0_4 p1 p2 p3 cz)), .val (.ref o13), .val (.ref r16), .val (.int ((XT.ushr p3 (7 : Int32)) &&& (3 : Int32))), .unset, .unset, .unset] [])) _
                      refine XS.iload X16.here hx rfl (hb hby at_177) rfl ?_
                      show Steps p.tables e below (T16.setTop (mkF m 179 #[.val (.int p1), .val (.int p2), .val (.int p3), .val (.int ((1 : Int32) + (f0_0 p1 p2 p3 cz))), .val (.int ((1 : Int32) + (f0_1 p1 p2 p3 cz))), .val (.int (fpc p1)), .val (.int (fpc (XT.ushr p1 (8 : Int32)))), .val (.int (fpc (XT.ushr p1 (16 : Int32)))), .val (.int (f0_2 p1 p2 p3 cz)), .val (.int (f0_3 p1 p2 p3 cz)), .val (.int (f0_4 p1 p2 p3 cz)), .val (.ref o13), .val (.ref r16), .val (.int ((XT.ushr p3 (7 : Int32)) &&& (3 : Int32))), .unset, .unset, .unset] [(.int (fpc (XT.ushr p1 (16 : Int32))))])) _
                      refine XS.iload X16.here hx rfl (hb hby at_179) rfl ?_
                      show Steps p.tables e below (T16.setTop (mkF m 181 #[.val (.int p1), .val (.int p2), .val (.int p3), .val (.int ((1 : Int32) + (f0_0 p1 p2 p3 cz))), .val (.int ((1 : Int32) + (f0_1 p1 p2 p3 cz))), .val (.int (fpc p1)), .val (.int (fpc (XT.ushr p1 (8 : Int32)))), .val (.int (fpc (XT.ushr p1 (16 : Int32)))), .val (.int (f0_2 p1 p2 p3 cz)), .val (.int (f0_3 p1 p2 p3 cz)), .val (.int (f0_4 p1 p2 p3 cz)), .val (.ref o13), .val (.ref r16), .val (.int ((XT.ushr p3 (7 : Int32)) &&& (3 : Int32))), .unset, .unset, .unset] [(.int (f0_4 p1 p2 p3 cz)), (.int (fpc (XT.ushr p1 (16 : Int32))))])) _
                      refine st27 _ ?_
                      exact k
                  rw [show (f0_7 p1 p2 p3 cz) = (f0_6 p1 p2 p3 cz) from if_pos h24] at k
                  show Steps p.tables e below (T16.setTop (mkF m 169 #[.val (.int p1), .val (.int p2), .val (.int p3), .val (.int ((1 : Int32) + (f0_0 p1 p2 p3 cz))), .val (.int ((1 : Int32) + (f0_1 p1 p2 p3 cz))), .val (.int (fpc p1)), .val (.int (fpc (XT.ushr p1 (8 : Int32)))), .val (.int (fpc (XT.ushr p1 (16 : Int32)))), .val (.int (f0_2 p1 p2 p3 cz)), .val (.int (f0_3 p1 p2 p3 cz)), .val (.int (f0_4 p1 p2 p3 cz)), .val (.ref o13), .val (.ref r16), .val (.int ((XT.ushr p3 (7 : Int32)) &&& (3 : Int32))), .unset, .unset, .unset] [(.int (f0_3 p1 p2 p3 cz)), (.int (fpc (XT.ushr p1 (8 : Int32))))])) _
                  refine XS.icmpNo X16.here hx rfl (hb hby at_169) rfl (teq h24).2 ?_
                  show Steps p.tables e below (T16.setTop (mkF m 172 #[.val (.int p1), .val (.int p2), .val (.int p3), .val (.int ((1 : Int32) + (f0_0 p1 p2 p3 cz))), .val (.int ((1 : Int32) + (f0_1 p1 p2 p3 cz))), .val (.int (fpc p1)), .val (.int (fpc (XT.ushr p1 (8 : Int32)))), .val (.int (fpc (XT.ushr p1 (16 : Int32)))), .val (.int (f0_2 p1 p2 p3 cz)), .val (.int (f0_3 p1 p2 p3 cz)), .val (.int (f0_4 p1 p2 p3 cz)), .val (.ref o13), .val (.ref r16), .val (.int ((XT.ushr p3 (7 : Int32)) &&& (3 : Int32))), .unset, .unset, .unset] [])) _
                  refine XS.iloadN X16.here hx rfl (hb hby at_172) rfl ?_
                  show Steps p.tables e below (T16.setTop (mkF m 173 #[.val (.int p1), .val (.int p2), .val (.int p3), .val (.int ((1 : Int32) + (f0_0 p1 p2 p3 cz))), .val (.int ((1 : Int32) + (f0_1 p1 p2 p3 cz))), .val (.int (fpc p1)), .val (.int (fpc (XT.ushr p1 (8 : Int32)))), .val (.int (fpc (XT.ushr p1 (16 : Int32)))), .val (.int (f0_2 p1 p2 p3 cz)), .val (.int (f0_3 p1 p2 p3 cz)), .val (.int (f0_4 p1 p2 p3 cz)), .val (.ref o13), .val (.ref r16), .val (.int ((XT.ushr p3 (7 : Int32)) &&& (3 : Int32))), .unset, .unset, .unset] [(.int ((1 : Int32) + (f0_0 p1 p2 p3 cz)))])) _
                  refine XS.iconst X16.here hx rfl (hb hby at_173) ?_
                  show Steps p.tables e below (T16.setTop (mkF m 174 #[.val (.int p1), .val (.int p2), .val (.int p3), .val (.int ((1 : Int32) + (f0_0 p1 p2 p3 cz))), .val (.int ((1 : Int32) + (f0_1 p1 p2 p3 cz))), .val (.int (fpc p1)), .val (.int (fpc (XT.ushr p1 (8 : Int32)))), .val (.int (fpc (XT.ushr p1 (16 : Int32)))), .val (.int (f0_2 p1 p2 p3 cz)), .val (.int (f0_3 p1 p2 p3 cz)), .val (.int (f0_4 p1 p2 p3 cz)), .val (.ref o13), .val (.ref r16), .val (.int ((XT.ushr p3 (7 : Int32)) &&& (3 : Int32))), .unset, .unset, .unset] [(.int (3 : Int32)), (.int ((1 : Int32) + (f0_0 p1 p2 p3 cz)))])) _
                  refine st28 _ ?_
                  exact k
                · rw [show (f0_7 p1 p2 p3 cz) = (0 : Int32) from if_neg h24] at k
                  show Steps p.tables e below (T16.setTop (mkF m 169 #[.val (.int p1), .val (.int p2), .val (.int p3), .val (.int ((1 : Int32) + (f0_0 p1 p2 p3 cz))), .val (.int ((1 : Int32) + (f0_1 p1 p2 p3 cz))), .val (.int (fpc p1)), .val (.int (fpc (XT.ushr p1 (8 : Int32)))), .val (.int (fpc (XT.ushr p1 (16 : Int32)))), .val (.int (f0_2 p1 p2 p3 cz)), .val (.int (f0_3 p1 p2 p3 cz)), .val (.int (f0_4 p1 p2 p3 cz)), .val (.ref o13), .val (.ref r16), .val (.int ((XT.ushr p3 (7 : Int32)) &&& (3 : Int32))), .unset, .unset, .unset] [(.int (f0_3 p1 p2 p3 cz)), (.int (fpc (XT.ushr p1 (8 : Int32))))])) _
                  refine XS.icmpYes X16.here hx rfl (pc0 := 169) (pc' := 188) rfl (hb hby at_169) rfl (feq h24).2 (by decide) (by decide) ?_
                  show Steps p.tables e below (T16.setTop (mkF m 188 #[.val (.int p1), .val (.int p2), .val (.int p3), .val (.int ((1 : Int32) + (f0_0 p1 p2 p3 cz))), .val (.int ((1 : Int32) + (f0_1 p1 p2 p3 cz))), .val (.int (fpc p1)), .val (.int (fpc (XT.ushr p1 (8 : Int32)))), .val (.int (fpc (XT.ushr p1 (16 : Int32)))), .val (.int (f0_2 p1 p2 p3 cz)), .val (.int (f0_3 p1 p2 p3 cz)), .val (.int (f0_4 p1 p2 p3 cz)), .val (.ref o13), .val (.ref r16), .val (.int ((XT.ushr p3 (7 : Int32)) &&& (3 : Int32))), .unset, .unset, .unset] [])) _
                  refine XS.iconst X16.here hx rfl (hb hby at_188) ?_
                  exact k
              rw [show (f0_8 p1 p2 p3 cz) = (f0_7 p1 p2 p3 cz) from if_neg h19] at k
              show Steps p.tables e below (T16.setTop (mkF m 162 #[.val (.int p1), .val (.int p2), .val (.int p3), .val (.int ((1 : Int32) + (f0_0 p1 p2 p3 cz))), .val (.int ((1 : Int32) + (f0_1 p1 p2 p3 cz))), .val (.int (fpc p1)), .val (.int (fpc (XT.ushr p1 (8 : Int32)))), .val (.int (fpc (XT.ushr p1 (16 : Int32)))), .val (.int (f0_2 p1 p2 p3 cz)), .val (.int (f0_3 p1 p2 p3 cz)), .val (.int (f0_4 p1 p2 p3 cz)), .val (.ref o13), .val (.ref r16), .val (.int ((XT.ushr p3 (7 : Int32)) &&& (3 : Int32))), .unset, .unset, .unset] [(.int (2 : Int32)), (.int ((1 : Int32) + (f0_0 p1 p2 p3 cz)))])) _
              refine XS.icmpNo X16.here hx rfl (hb hby at_162) rfl (flt h19).1 ?_
              show Steps p.tables e below (T16.setTop (mkF m 165 #[.val (.int p1), .val (.int p2), .val (.int p3), .val (.int ((1 : Int32) + (f0_0 p1 p2 p3 cz))), .val (.int ((1 : Int32) + (f0_1 p1 p2 p3 cz))), .val (.int (fpc p1)), .val (.int (fpc (XT.ushr p1 (8 : Int32)))), .val (.int (fpc (XT.ushr p1 (16 : Int32)))), .val (.int (f0_2 p1 p2 p3 cz)), .val (.int (f0_3 p1 p2 p3 cz)), .val (.int (f0_4 p1 p2 p3 cz)), .val (.ref o13), .val (.ref r16), .val (.int ((XT.ushr p3 (7 : Int32)) &&& (3 : Int32))), .unset, .unset, .unset] [])) _
              refine XS.iload X16.here hx rfl (hb hby at_165) rfl ?_
              show Steps p.tables e below (T16.setTop (mkF m 167 #[.val (.int p1), .val (.int p2), .val (.int p3), .val (.int ((1 : Int32) + (f0_0 p1 p2 p3 cz))), .val (.int ((1 : Int32) + (f0_1 p1 p2 p3 cz))), .val (.int (fpc p1)), .val (.int (fpc (XT.ushr p1 (8 : Int32)))), .val (.int (fpc (XT.ushr p1 (16 : Int32)))), .val (.int (f0_2 p1 p2 p3 cz)), .val (.int (f0_3 p1 p2 p3 cz)), .val (.int (f0_4 p1 p2 p3 cz)), .val (.ref o13), .val (.ref r16), .val (.int ((XT.ushr p3 (7 : Int32)) &&& (3 : Int32))), .unset, .unset, .unset] [(.int (fpc (XT.ushr p1 (8 : Int32))))])) _
              refine XS.iload X16.here hx rfl (hb hby at_167) rfl ?_
              show Steps p.tables e below (T16.setTop (mkF m 169 #[.val (.int p1), .val (.int p2), .val (.int p3), .val (.int ((1 : Int32) + (f0_0 p1 p2 p3 cz))), .val (.int ((1 : Int32) + (f0_1 p1 p2 p3 cz))), .val (.int (fpc p1)), .val (.int (fpc (XT.ushr p1 (8 : Int32)))), .val (.int (fpc (XT.ushr p1 (16 : Int32)))), .val (.int (f0_2 p1 p2 p3 cz)), .val (.int (f0_3 p1 p2 p3 cz)), .val (.int (f0_4 p1 p2 p3 cz)), .val (.ref o13), .val (.ref r16), .val (.int ((XT.ushr p3 (7 : Int32)) &&& (3 : Int32))), .unset, .unset, .unset] [(.int (f0_3 p1 p2 p3 cz)), (.int (fpc (XT.ushr p1 (8 : Int32))))])) _
              refine st29 _ ?_
              exact k
          rw [show (f0_9 p1 p2 p3 cz) = (f0_8 p1 p2 p3 cz) from if_pos h18] at k
          show Steps p.tables e below (T16.setTop (mkF m 157 #[.val (.int p1), .val (.int p2), .val (.int p3), .val (.int ((1 : Int32) + (f0_0 p1 p2 p3 cz))), .val (.int ((1 : Int32) + (f0_1 p1 p2 p3 cz))), .val (.int (fpc p1)), .val (.int (fpc (XT.ushr p1 (8 : Int32)))), .val (.int (fpc (XT.ushr p1 (16 : Int32)))), .val (.int (f0_2 p1 p2 p3 cz)), .val (.int (f0_3 p1 p2 p3 cz)), .val (.int (f0_4 p1 p2 p3 cz)), .val (.ref o13), .val (.ref r16), .val (.int ((XT.ushr p3 (7 : Int32)) &&& (3 : Int32))), .unset, .unset, .unset] [(.int (f0_2 p1 p2 p3 cz)), (.int (fpc p1))])) _
          refine XS.icmpNo X16.here hx rfl (hb hby at_157) rfl (teq h18).2 ?_
          show Steps p.tables e below (T16.setTop (mkF m 160 #[.val (.int p1), .val (.int p2), .val (.int p3), .val (.int ((1 : Int32) + (f0_0 p1 p2 p3 cz))), .val (.int ((1 : Int32) + (f0_1 p1 p2 p3 cz))), .val (.int (fpc p1)), .val (.int (fpc (XT.ushr p1 (8 : Int32)))), .val (.int (fpc (XT.ushr p1 (16 : Int32)))), .val (.int (f0_2 p1 p2 p3 cz)), .val (.int (f0_3 p1 p2 p3 cz)), .val (.int (f0_4 p1 p2 p3 cz)), .val (.ref o13), .val (.ref r16), .val (.int ((XT.ushr p3 (7 : Int32)) &&& (3 : Int32))), .unset, .unset, .unset] [])) _
          refine XS.iloadN X16.here hx rfl (hb hby at_160) rfl ?_
          show Steps p.tables e below (T16.setTop (mkF m 161 #[.val (.int p1), .val (.int p2), .val (.int p3), .val (.int ((1 : Int32) + (f0_0 p1 p2 p3 cz))), .val (.int ((1 : Int32) + (f0_1 p1 p2 p3 cz))), .val (.int (fpc p1)), .val (.int (fpc (XT.ushr p1 (8 : Int32)))), .val (.int (fpc (XT.ushr p1 (16 : Int32)))), .val (.int (f0_2 p1 p2 p3 cz)), .val (.int (f0_3 p1 p2 p3 cz)), .val (.int (f0_4 p1 p2 p3 cz)), .val (.ref o13), .val (.ref r16), .val (.int ((XT.ushr p3 (7 : Int32)) &&& (3 : Int32))), .unset, .unset, .unset] [(.int ((1 : Int32) + (f0_0 p1 p2 p3 cz)))])) _
          refine XS.iconst X16.here hx rfl (hb hby at_161) ?_
          show Steps p.tables e below (T16.setTop (mkF m 162 #[.val (.int p1), .val (.int p2), .val (.int p3), .val (.int ((1 : Int32) + (f0_0 p1 p2 p3 cz))), .val (.int ((1 : Int32) + (f0_1 p1 p2 p3 cz))), .val (.int (fpc p1)), .val (.int (fpc (XT.ushr p1 (8 : Int32)))), .val (.int (fpc (XT.ushr p1 (16 : Int32)))), .val (.int (f0_2 p1 p2 p3 cz)), .val (.int (f0_3 p1 p2 p3 cz)), .val (.int (f0_4 p1 p2 p3 cz)), .val (.ref o13), .val (.ref r16), .val (.int ((XT.ushr p3 (7 : Int32)) &&& (3 : Int32))), .unset, .unset, .unset] [(.int (2 : Int32)), (.int ((1 : Int32) + (f0_0 p1 p2 p3 cz)))])) _
          refine st30 _ ?_
          exact k
        · rw [show (f0_9 p1 p2 p3 cz) = (0 : Int32) from if_neg h18] at k
          show Steps p.tables e below (T16.setTop (mkF m 157 #[.val (.int p1), .val (.int p2), .val (.int p3), .val (.int ((1 : Int32) + (f0_0 p1 p2 p3 cz))), .val (.int ((1 : Int32) + (f0_1 p1 p2 p3 cz))), .val (.int (fpc p1)), .val (.int (fpc (XT.ushr p1 (8 : Int32)))), .val (.int (fpc (XT.ushr p1 (16 : Int32)))), .val (.int (f0_2 p1 p2 p3 cz)), .val (.int (f0_3 p1 p2 p3 cz)), .val (.int (f0_4 p1 p2 p3 cz)), .val (.ref o13), .val (.ref r16), .val (.int ((XT.ushr p3 (7 : Int32)) &&& (3 : Int32))), .unset, .unset, .unset] [(.int (f0_2 p1 p2 p3 cz)), (.int (fpc p1))])) _
          refine XS.icmpYes X16.here hx rfl (pc0 := 157) (pc' := 188) rfl (hb hby at_157) rfl (feq h18).2 (by decide) (by decide) ?_
          show Steps p.tables e below (T16.setTop (mkF m 188 #[.val (.int p1), .val (.int p2), .val (.int p3), .val (.int ((1 : Int32) + (f0_0 p1 p2 p3 cz))), .val (.int ((1 : Int32) + (f0_1 p1 p2 p3 cz))), .val (.int (fpc p1)), .val (.int (fpc (XT.ushr p1 (8 : Int32)))), .val (.int (fpc (XT.ushr p1 (16 : Int32)))), .val (.int (f0_2 p1 p2 p3 cz)), .val (.int (f0_3 p1 p2 p3 cz)), .val (.int (f0_4 p1 p2 p3 cz)), .val (.ref o13), .val (.ref r16), .val (.int ((XT.ushr p3 (7 : Int32)) &&& (3 : Int32))), .unset, .unset, .unset] [])) _
          refine XS.iconst X16.here hx rfl (hb hby at_188) ?_
          exact k
      rw [show (f0_10 p1 p2 p3 cz) = (f0_9 p1 p2 p3 cz) from if_pos h17] at k
      show Steps p.tables e below (T16.setTop (mkF m 150 #[.val (.int p1), .val (.int p2), .val (.int p3), .val (.int ((1 : Int32) + (f0_0 p1 p2 p3 cz))), .val (.int ((1 : Int32) + (f0_1 p1 p2 p3 cz))), .val (.int (fpc p1)), .val (.int (fpc (XT.ushr p1 (8 : Int32)))), .val (.int (fpc (XT.ushr p1 (16 : Int32)))), .val (.int (f0_2 p1 p2 p3 cz)), .val (.int (f0_3 p1 p2 p3 cz)), .val (.int (f0_4 p1 p2 p3 cz)), .val (.ref o13), .val (.ref r16), .val (.int ((XT.ushr p3 (7 : Int32)) &&& (3 : Int32))), .unset, .unset, .unset] [(.int ((1 : Int32) + (f0_1 p1 p2 p3 cz))), (.int ((1 : Int32) + (f0_0 p1 p2 p3 cz)))])) _
      refine XS.icmpNo X16.here hx rfl (hb hby at_150) rfl (teq h17).2 ?_
      show Steps p.tables e below (T16.setTop (mkF m 153 #[.val (.int p1), .val (.int p2), .val (.int p3), .val (.int ((1 : Int32) + (f0_0 p1 p2 p3 cz))), .val (.int ((1 : Int32) + (f0_1 p1 p2 p3 cz))), .val (.int (fpc p1)), .val (.int (fpc (XT.ushr p1 (8 : Int32)))), .val (.int (fpc (XT.ushr p1 (16 : Int32)))), .val (.int (f0_2 p1 p2 p3 cz)), .val (.int (f0_3 p1 p2 p3 cz)), .val (.int (f0_4 p1 p2 p3 cz)), .val (.ref o13), .val (.ref r16), .val (.int ((XT.ushr p3 (7 : Int32)) &&& (3 : Int32))), .unset, .unset, .unset] [])) _
      refine XS.iload X16.here hx rfl (hb hby at_153) rfl ?_
      show Steps p.tables e below (T16.setTop (mkF m 155 #[.val (.int p1), .val (.int p2), .val (.int p3), .val (.int ((1 : Int32) + (f0_0 p1 p2 p3 cz))), .val (.int ((1 : Int32) + (f0_1 p1 p2 p3 cz))), .val (.int (fpc p1)), .val (.int (fpc (XT.ushr p1 (8 : Int32)))), .val (.int (fpc (XT.ushr p1 (16 : Int32)))), .val (.int (f0_2 p1 p2 p3 cz)), .val (.int (f0_3 p1 p2 p3 cz)), .val (.int (f0_4 p1 p2 p3 cz)), .val (.ref o13), .val (.ref r16), .val (.int ((XT.ushr p3 (7 : Int32)) &&& (3 : Int32))), .unset, .unset, .unset] [(.int (fpc p1))])) _
      refine XS.iload X16.here hx rfl (hb hby at_155) rfl ?_
      show Steps p.tables e below (T16.setTop (mkF m 157 #[.val (.int p1), .val (.int p2), .val (.int p3), .val (.int ((1 : Int32) + (f0_0 p1 p2 p3 cz))), .val (.int ((1 : Int32) + (f0_1 p1 p2 p3 cz))), .val (.int (fpc p1)), .val (.int (fpc (XT.ushr p1 (8 : Int32)))), .val (.int (fpc (XT.ushr p1 (16 : Int32)))), .val (.int (f0_2 p1 p2 p3 cz)), .val (.int (f0_3 p1 p2 p3 cz)), .val (.int (f0_4 p1 p2 p3 cz)), .val (.ref o13), .val (.ref r16), .val (.int ((XT.ushr p3 (7 : Int32)) &&& (3 : Int32))), .unset, .unset, .unset] [(.int (f0_2 p1 p2 p3 cz)), (.int (fpc p1))])) _
      refine st31 _ ?_
      exact k
    · rw [show (f0_10 p1 p2 p3 cz) = (0 : Int32) from if_neg h17] at k
      show Steps p.tables e below (T16.setTop (mkF m 150 #[.val (.int p1), .val (.int p2), .val (.int p3), .val (.int ((1 : Int32) + (f0_0 p1 p2 p3 cz))), .val (.int ((1 : Int32) + (f0_1 p1 p2 p3 cz))), .val (.int (fpc p1)), .val (.int (fpc (XT.ushr p1 (8 : Int32)))), .val (.int (fpc (XT.ushr p1 (16 : Int32)))), .val (.int (f0_2 p1 p2 p3 cz)), .val (.int (f0_3 p1 p2 p3 cz)), .val (.int (f0_4 p1 p2 p3 cz)), .val (.ref o13), .val (.ref r16), .val (.int ((XT.ushr p3 (7 : Int32)) &&& (3 : Int32))), .unset, .unset, .unset] [(.int ((1 : Int32) + (f0_1 p1 p2 p3 cz))), (.int ((1 : Int32) + (f0_0 p1 p2 p3 cz)))])) _
      refine XS.icmpYes X16.here hx rfl (pc0 := 150) (pc' := 188) rfl (hb hby at_150) rfl (feq h17).2 (by decide) (by decide) ?_
      show Steps p.tables e below (T16.setTop (mkF m 188 #[.val (.int p1), .val (.int p2), .val (.int p3), .val (.int ((1 : Int32) + (f0_0 p1 p2 p3 cz))), .val (.int ((1 : Int32) + (f0_1 p1 p2 p3 cz))), .val (.int (fpc p1)), .val (.int (fpc (XT.ushr p1 (8 : Int32)))), .val (.int (fpc (XT.ushr p1 (16 : Int32)))), .val (.int (f0_2 p1 p2 p3 cz)), .val (.int (f0_3 p1 p2 p3 cz)), .val (.int (f0_4 p1 p2 p3 cz)), .val (.ref o13), .val (.ref r16), .val (.int ((XT.ushr p3 (7 : Int32)) &&& (3 : Int32))), .unset, .unset, .unset] [])) _
      refine XS.iconst X16.here hx rfl (hb hby at_188) ?_
      exact k
  refine own_step (B := T16.setTop (mkF m 193 #[.val (.int p1), .val (.int p2), .val (.int p3), .val (.int ((1 : Int32) + (f0_0 p1 p2 p3 cz))), .val (.int ((1 : Int32) + (f0_1 p1 p2 p3 cz))), .val (.int (fpc p1)), .val (.int (fpc (XT.ushr p1 (8 : Int32)))), .val (.int (fpc (XT.ushr p1 (16 : Int32)))), .val (.int (f0_2 p1 p2 p3 cz)), .val (.int (f0_3 p1 p2 p3 cz)), .val (.int (f0_4 p1 p2 p3 cz)), .val (.ref o13), .val (.ref r16), .val (.int ((XT.ushr p3 (7 : Int32)) &&& (3 : Int32))), .val (.int (f0_10 p1 p2 p3 cz)), .unset, .unset] [(.int ((XT.ushr p3 (7 : Int32)) &&& (3 : Int32)))])) (fun t k => ?_) ?_
  · show Steps p.tables e below (s₁.setTop (mkF m 0 #[.val (.int p1), .val (.int p2), .val (.int p3), .unset, .unset, .unset, .unset, .unset, .unset, .unset, .unset, .unset, .unset, .unset, .unset, .unset, .unset] [])) _
    refine XS.iconst X0.here hx rfl (hb hby at_0) ?_
    show Steps p.tables e below (s₁.setTop (mkF m 1 #[.val (.int p1), .val (.int p2), .val (.int p3), .unset, .unset, .unset, .unset, .unset, .unset, .unset, .unset, .unset, .unset, .unset, .unset, .unset, .unset] [(.int (1 : Int32))])) _
    refine XS.iloadN X0.here hx rfl (hb hby at_1) rfl ?_
    show Steps p.tables e below (s₁.setTop (mkF m 2 #[.val (.int p1), .val (.int p2), .val (.int p3), .unset, .unset, .unset, .unset, .unset, .unset, .unset, .unset, .unset, .unset, .unset, .unset, .unset, .unset] [(.int p3), (.int (1 : Int32))])) _
    refine XS.iconst X0.here hx rfl (hb hby at_2) ?_
    show Steps p.tables e below (s₁.setTop (mkF m 3 #[.val (.int p1), .val (.int p2), .val (.int p3), .unset, .unset, .unset, .unset, .unset, .unset, .unset, .unset, .unset, .unset, .unset, .unset, .unset, .unset] [(.int (3 : Int32)), (.int p3), (.int (1 : Int32))])) _
    refine XS.iand X0.here hx rfl (hb hby at_3) rfl ?_
    show Steps p.tables e below (s₁.setTop (mkF m 4 #[.val (.int p1), .val (.int p2), .val (.int p3), .unset, .unset, .unset, .unset, .unset, .unset, .unset, .unset, .unset, .unset, .unset, .unset, .unset, .unset] [(.int (p3 &&& (3 : Int32))), (.int (1 : Int32))])) _
    refine XS.iconst X0.here hx rfl (hb hby at_4) ?_
    show Steps p.tables e below (s₁.setTop (mkF m 5 #[.val (.int p1), .val (.int p2), .val (.int p3), .unset, .unset, .unset, .unset, .unset, .unset, .unset, .unset, .unset, .unset, .unset, .unset, .unset, .unset] [(.int (3 : Int32)), (.int (p3 &&& (3 : Int32))), (.int (1 : Int32))])) _
    refine XS.irem X0.here hx rfl (hb hby at_5) rfl (by decide) ?_
    show Steps p.tables e below (s₁.setTop (mkF m 6 #[.val (.int p1), .val (.int p2), .val (.int p3), .unset, .unset, .unset, .unset, .unset, .unset, .unset, .unset, .unset, .unset, .unset, .unset, .unset, .unset] [(.int (f0_0 p1 p2 p3 cz)), (.int (1 : Int32))])) _
    refine XS.iadd X0.here hx rfl (hb hby at_6) rfl ?_
    show Steps p.tables e below (s₁.setTop (mkF m 7 #[.val (.int p1), .val (.int p2), .val (.int p3), .unset, .unset, .unset, .unset, .unset, .unset, .unset, .unset, .unset, .unset, .unset, .unset, .unset, .unset] [(.int ((1 : Int32) + (f0_0 p1 p2 p3 cz)))])) _
    refine XS.istoreN X0.here hx rfl (hb hby at_7) rfl (l' := #[.val (.int p1), .val (.int p2), .val (.int p3), .val (.int ((1 : Int32) + (f0_0 p1 p2 p3 cz))), .unset, .unset, .unset, .unset, .unset, .unset, .unset, .unset, .unset, .unset, .unset, .unset, .unset]) rfl ?_
    show Steps p.tables e below (s₁.setTop (mkF m 8 #[.val (.int p1), .val (.int p2), .val (.int p3), .val (.int ((1 : Int32) + (f0_0 p1 p2 p3 cz))), .unset, .unset, .unset, .unset, .unset, .unset, .unset, .unset, .unset, .unset, .unset, .unset, .unset] [])) _
    refine XS.iconst X0.here hx rfl (hb hby at_8) ?_
    show Steps p.tables e below (s₁.setTop (mkF m 9 #[.val (.int p1), .val (.int p2), .val (.int p3), .val (.int ((1 : Int32) + (f0_0 p1 p2 p3 cz))), .unset, .unset, .unset, .unset, .unset, .unset, .unset, .unset, .unset, .unset, .unset, .unset, .unset] [(.int (1 : Int32))])) _
    refine XS.iloadN X0.here hx rfl (hb hby at_9) rfl ?_
    show Steps p.tables e below (s₁.setTop (mkF m 10 #[.val (.int p1), .val (.int p2), .val (.int p3), .val (.int ((1 : Int32) + (f0_0 p1 p2 p3 cz))), .unset, .unset, .unset, .unset, .unset, .unset, .unset, .unset, .unset, .unset, .unset, .unset, .unset] [(.int p3), (.int (1 : Int32))])) _
    refine XS.iconst X0.here hx rfl (hb hby at_10) ?_
    show Steps p.tables e below (s₁.setTop (mkF m 11 #[.val (.int p1), .val (.int p2), .val (.int p3), .val (.int ((1 : Int32) + (f0_0 p1 p2 p3 cz))), .unset, .unset, .unset, .unset, .unset, .unset, .unset, .unset, .unset, .unset, .unset, .unset, .unset] [(.int (2 : Int32)), (.int p3), (.int (1 : Int32))])) _
    refine XT.iushr X0.here hx rfl (hb hby at_11) rfl ?_
    show Steps p.tables e below (s₁.setTop (mkF m 12 #[.val (.int p1), .val (.int p2), .val (.int p3), .val (.int ((1 : Int32) + (f0_0 p1 p2 p3 cz))), .unset, .unset, .unset, .unset, .unset, .unset, .unset, .unset, .unset, .unset, .unset, .unset, .unset] [(.int (XT.ushr p3 (2 : Int32))), (.int (1 : Int32))])) _
    refine XS.iconst X0.here hx rfl (hb hby at_12) ?_
    show Steps p.tables e below (s₁.setTop (mkF m 13 #[.val (.int p1), .val (.int p2), .val (.int p3), .val (.int ((1 : Int32) + (f0_0 p1 p2 p3 cz))), .unset, .unset, .unset, .unset, .unset, .unset, .unset, .unset, .unset, .unset, .unset, .unset, .unset] [(.int (3 : Int32)), (.int (XT.ushr p3 (2 : Int32))), (.int (1 : Int32))])) _
    refine XS.iand X0.here hx rfl (hb hby at_13) rfl ?_
    show Steps p.tables e below (s₁.setTop (mkF m 14 #[.val (.int p1), .val (.int p2), .val (.int p3), .val (.int ((1 : Int32) + (f0_0 p1 p2 p3 cz))), .unset, .unset, .unset, .unset, .unset, .unset, .unset, .unset, .unset, .unset, .unset, .unset, .unset] [(.int ((XT.ushr p3 (2 : Int32)) &&& (3 : Int32))), (.int (1 : Int32))])) _
    refine XS.iconst X0.here hx rfl (hb hby at_14) ?_
    show Steps p.tables e below (s₁.setTop (mkF m 15 #[.val (.int p1), .val (.int p2), .val (.int p3), .val (.int ((1 : Int32) + (f0_0 p1 p2 p3 cz))), .unset, .unset, .unset, .unset, .unset, .unset, .unset, .unset, .unset, .unset, .unset, .unset, .unset] [(.int (3 : Int32)), (.int ((XT.ushr p3 (2 : Int32)) &&& (3 : Int32))), (.int (1 : Int32))])) _
    refine XS.irem X0.here hx rfl (hb hby at_15) rfl (by decide) ?_
    show Steps p.tables e below (s₁.setTop (mkF m 16 #[.val (.int p1), .val (.int p2), .val (.int p3), .val (.int ((1 : Int32) + (f0_0 p1 p2 p3 cz))), .unset, .unset, .unset, .unset, .unset, .unset, .unset, .unset, .unset, .unset, .unset, .unset, .unset] [(.int (f0_1 p1 p2 p3 cz)), (.int (1 : Int32))])) _
    refine XS.iadd X0.here hx rfl (hb hby at_16) rfl ?_
    show Steps p.tables e below (s₁.setTop (mkF m 17 #[.val (.int p1), .val (.int p2), .val (.int p3), .val (.int ((1 : Int32) + (f0_0 p1 p2 p3 cz))), .unset, .unset, .unset, .unset, .unset, .unset, .unset, .unset, .unset, .unset, .unset, .unset, .unset] [(.int ((1 : Int32) + (f0_1 p1 p2 p3 cz)))])) _
    refine XS.istore X0.here hx rfl (hb hby at_17) rfl (l' := #[.val (.int p1), .val (.int p2), .val (.int p3), .val (.int ((1 : Int32) + (f0_0 p1 p2 p3 cz))), .val (.int ((1 : Int32) + (f0_1 p1 p2 p3 cz))), .unset, .unset, .unset, .unset, .unset, .unset, .unset, .unset, .unset, .unset, .unset, .unset]) rfl ?_
    show Steps p.tables e below (s₁.setTop (mkF m 19 #[.val (.int p1), .val (.int p2), .val (.int p3), .val (.int ((1 : Int32) + (f0_0 p1 p2 p3 cz))), .val (.int ((1 : Int32) + (f0_1 p1 p2 p3 cz))), .unset, .unset, .unset, .unset, .unset, .unset, .unset, .unset, .unset, .unset, .unset, .unset] [])) _
    refine XS.iloadN X0.here hx rfl (hb hby at_19) rfl ?_
    show Steps p.tables e below (s₁.setTop (mkF m 20 #[.val (.int p1), .val (.int p2), .val (.int p3), .val (.int ((1 : Int32) + (f0_0 p1 p2 p3 cz))), .val (.int ((1 : Int32) + (f0_1 p1 p2 p3 cz))), .unset, .unset, .unset, .unset, .unset, .unset, .unset, .unset, .unset, .unset, .unset, .unset] [(.int p1)])) _
    refine st1 _ ?_
    show Steps p.tables e below (T1.setTop (mkF m 23 #[.val (.int p1), .val (.int p2), .val (.int p3), .val (.int ((1 : Int32) + (f0_0 p1 p2 p3 cz))), .val (.int ((1 : Int32) + (f0_1 p1 p2 p3 cz))), .unset, .unset, .unset, .unset, .unset, .unset, .unset, .unset, .unset, .unset, .unset, .unset] [(.int (fpc p1))])) _
    refine XS.istore X1.here hx rfl (hb hby at_23) rfl (l' := #[.val (.int p1), .val (.int p2), .val (.int p3), .val (.int ((1 : Int32) + (f0_0 p1 p2 p3 cz))), .val (.int ((1 : Int32) + (f0_1 p1 p2 p3 cz))), .val (.int (fpc p1)), .unset, .unset, .unset, .unset, .unset, .unset, .unset, .unset, .unset, .unset, .unset]) rfl ?_
    show Steps p.tables e below (T1.setTop (mkF m 25 #[.val (.int p1), .val (.int p2), .val (.int p3), .val (.int ((1 : Int32) + (f0_0 p1 p2 p3 cz))), .val (.int ((1 : Int32) + (f0_1 p1 p2 p3 cz))), .val (.int (fpc p1)), .unset, .unset, .unset, .unset, .unset, .unset, .unset, .unset, .unset, .unset, .unset] [])) _
    refine XS.iloadN X1.here hx rfl (hb hby at_25) rfl ?_
    show Steps p.tables e below (T1.setTop (mkF m 26 #[.val (.int p1), .val (.int p2), .val (.int p3), .val (.int ((1 : Int32) + (f0_0 p1 p2 p3 cz))), .val (.int ((1 : Int32) + (f0_1 p1 p2 p3 cz))), .val (.int (fpc p1)), .unset, .unset, .unset, .unset, .unset, .unset, .unset, .unset, .unset, .unset, .unset] [(.int p1)])) _
    refine XS.bipush X1.here hx rfl (hb hby at_26) ?_
    show Steps p.tables e below (T1.setTop (mkF m 28 #[.val (.int p1), .val (.int p2), .val (.int p3), .val (.int ((1 : Int32) + (f0_0 p1 p2 p3 cz))), .val (.int ((1 : Int32) + (f0_1 p1 p2 p3 cz))), .val (.int (fpc p1)), .unset, .unset, .unset, .unset, .unset, .unset, .unset, .unset, .unset, .unset, .unset] [(.int (8 : Int32)), (.int p1)])) _
    refine XT.iushr X1.here hx rfl (hb hby at_28) rfl ?_
    show Steps p.tables e below (T1.setTop (mkF m 29 #[.val (.int p1), .val (.int p2), .val (.int p3), .val (.int ((1 : Int32) + (f0_0 p1 p2 p3 cz))), .val (.int ((1 : Int32) + (f0_1 p1 p2 p3 cz))), .val (.int (fpc p1)), .unset, .unset, .unset, .unset, .unset, .unset, .unset, .unset, .unset, .unset, .unset] [(.int (XT.ushr p1 (8 : Int32)))])) _
    refine st2 _ ?_
    show Steps p.tables e below (T2.setTop (mkF m 32 #[.val (.int p1), .val (.int p2), .val (.int p3), .val (.int ((1 : Int32) + (f0_0 p1 p2 p3 cz))), .val (.int ((1 : Int32) + (f0_1 p1 p2 p3 cz))), .val (.int (fpc p1)), .unset, .unset, .unset, .unset, .unset, .unset, .unset, .unset, .unset, .unset, .unset] [(.int (fpc (XT.ushr p1 (8 : Int32))))])) _
    refine XS.istore X2.here hx rfl (hb hby at_32) rfl (l' := #[.val (.int p1), .val (.int p2), .val (.int p3), .val (.int ((1 : Int32) + (f0_0 p1 p2 p3 cz))), .val (.int ((1 : Int32) + (f0_1 p1 p2 p3 cz))), .val (.int (fpc p1)), .val (.int (fpc (XT.ushr p1 (8 : Int32)))), .unset, .unset, .unset, .unset, .unset, .unset, .unset, .unset, .unset, .unset]) rfl ?_
    show Steps p.tables e below (T2.setTop (mkF m 34 #[.val (.int p1), .val (.int p2), .val (.int p3), .val (.int ((1 : Int32) + (f0_0 p1 p2 p3 cz))), .val (.int ((1 : Int32) + (f0_1 p1 p2 p3 cz))), .val (.int (fpc p1)), .val (.int (fpc (XT.ushr p1 (8 : Int32)))), .unset, .unset, .unset, .unset, .unset, .unset, .unset, .unset, .unset, .unset] [])) _
    refine XS.iloadN X2.here hx rfl (hb hby at_34) rfl ?_
    show Steps p.tables e below (T2.setTop (mkF m 35 #[.val (.int p1), .val (.int p2), .val (.int p3), .val (.int ((1 : Int32) + (f0_0 p1 p2 p3 cz))), .val (.int ((1 : Int32) + (f0_1 p1 p2 p3 cz))), .val (.int (fpc p1)), .val (.int (fpc (XT.ushr p1 (8 : Int32)))), .unset, .unset, .unset, .unset, .unset, .unset, .unset, .unset, .unset, .unset] [(.int p1)])) _
    refine XS.bipush X2.here hx rfl (hb hby at_35) ?_
    show Steps p.tables e below (T2.setTop (mkF m 37 #[.val (.int p1), .val (.int p2), .val (.int p3), .val (.int ((1 : Int32) + (f0_0 p1 p2 p3 cz))), .val (.int ((1 : Int32) + (f0_1 p1 p2 p3 cz))), .val (.int (fpc p1)), .val (.int (fpc (XT.ushr p1 (8 : Int32)))), .unset, .unset, .unset, .unset, .unset, .unset, .unset, .unset, .unset, .unset] [(.int (16 : Int32)), (.int p1)])) _
    refine XT.iushr X2.here hx rfl (hb hby at_37) rfl ?_
    show Steps p.tables e below (T2.setTop (mkF m 38 #[.val (.int p1), .val (.int p2), .val (.int p3), .val (.int ((1 : Int32) + (f0_0 p1 p2 p3 cz))), .val (.int ((1 : Int32) + (f0_1 p1 p2 p3 cz))), .val (.int (fpc p1)), .val (.int (fpc (XT.ushr p1 (8 : Int32)))), .unset, .unset, .unset, .unset, .unset, .unset, .unset, .unset, .unset, .unset] [(.int (XT.ushr p1 (16 : Int32)))])) _
    refine st3 _ ?_
    show Steps p.tables e below (T3.setTop (mkF m 41 #[.val (.int p1), .val (.int p2), .val (.int p3), .val (.int ((1 : Int32) + (f0_0 p1 p2 p3 cz))), .val (.int ((1 : Int32) + (f0_1 p1 p2 p3 cz))), .val (.int (fpc p1)), .val (.int (fpc (XT.ushr p1 (8 : Int32)))), .unset, .unset, .unset, .unset, .unset, .unset, .unset, .unset, .unset, .unset] [(.int (fpc (XT.ushr p1 (16 : Int32))))])) _
    refine XS.istore X3.here hx rfl (hb hby at_41) rfl (l' := #[.val (.int p1), .val (.int p2), .val (.int p3), .val (.int ((1 : Int32) + (f0_0 p1 p2 p3 cz))), .val (.int ((1 : Int32) + (f0_1 p1 p2 p3 cz))), .val (.int (fpc p1)), .val (.int (fpc (XT.ushr p1 (8 : Int32)))), .val (.int (fpc (XT.ushr p1 (16 : Int32)))), .unset, .unset, .unset, .unset, .unset, .unset, .unset, .unset, .unset]) rfl ?_
    show Steps p.tables e below (T3.setTop (mkF m 43 #[.val (.int p1), .val (.int p2), .val (.int p3), .val (.int ((1 : Int32) + (f0_0 p1 p2 p3 cz))), .val (.int ((1 : Int32) + (f0_1 p1 p2 p3 cz))), .val (.int (fpc p1)), .val (.int (fpc (XT.ushr p1 (8 : Int32)))), .val (.int (fpc (XT.ushr p1 (16 : Int32)))), .unset, .unset, .unset, .unset, .unset, .unset, .unset, .unset, .unset] [])) _
    refine XS.iloadN X3.here hx rfl (hb hby at_43) rfl ?_
    show Steps p.tables e below (T3.setTop (mkF m 44 #[.val (.int p1), .val (.int p2), .val (.int p3), .val (.int ((1 : Int32) + (f0_0 p1 p2 p3 cz))), .val (.int ((1 : Int32) + (f0_1 p1 p2 p3 cz))), .val (.int (fpc p1)), .val (.int (fpc (XT.ushr p1 (8 : Int32)))), .val (.int (fpc (XT.ushr p1 (16 : Int32)))), .unset, .unset, .unset, .unset, .unset, .unset, .unset, .unset, .unset] [(.int p3)])) _
    refine XS.iconst X3.here hx rfl (hb hby at_44) ?_
    show Steps p.tables e below (T3.setTop (mkF m 45 #[.val (.int p1), .val (.int p2), .val (.int p3), .val (.int ((1 : Int32) + (f0_0 p1 p2 p3 cz))), .val (.int ((1 : Int32) + (f0_1 p1 p2 p3 cz))), .val (.int (fpc p1)), .val (.int (fpc (XT.ushr p1 (8 : Int32)))), .val (.int (fpc (XT.ushr p1 (16 : Int32)))), .unset, .unset, .unset, .unset, .unset, .unset, .unset, .unset, .unset] [(.int (4 : Int32)), (.int p3)])) _
    refine XT.iushr X3.here hx rfl (hb hby at_45) rfl ?_
    show Steps p.tables e below (T3.setTop (mkF m 46 #[.val (.int p1), .val (.int p2), .val (.int p3), .val (.int ((1 : Int32) + (f0_0 p1 p2 p3 cz))), .val (.int ((1 : Int32) + (f0_1 p1 p2 p3 cz))), .val (.int (fpc p1)), .val (.int (fpc (XT.ushr p1 (8 : Int32)))), .val (.int (fpc (XT.ushr p1 (16 : Int32)))), .unset, .unset, .unset, .unset, .unset, .unset, .unset, .unset, .unset] [(.int (XT.ushr p3 (4 : Int32)))])) _
    refine XS.iconst X3.here hx rfl (hb hby at_46) ?_
    show Steps p.tables e below (T3.setTop (mkF m 47 #[.val (.int p1), .val (.int p2), .val (.int p3), .val (.int ((1 : Int32) + (f0_0 p1 p2 p3 cz))), .val (.int ((1 : Int32) + (f0_1 p1 p2 p3 cz))), .val (.int (fpc p1)), .val (.int (fpc (XT.ushr p1 (8 : Int32)))), .val (.int (fpc (XT.ushr p1 (16 : Int32)))), .unset, .unset, .unset, .unset, .unset, .unset, .unset, .unset, .unset] [(.int (1 : Int32)), (.int (XT.ushr p3 (4 : Int32)))])) _
    refine XS.iand X3.here hx rfl (hb hby at_47) rfl ?_
    show Steps p.tables e below (T3.setTop (mkF m 48 #[.val (.int p1), .val (.int p2), .val (.int p3), .val (.int ((1 : Int32) + (f0_0 p1 p2 p3 cz))), .val (.int ((1 : Int32) + (f0_1 p1 p2 p3 cz))), .val (.int (fpc p1)), .val (.int (fpc (XT.ushr p1 (8 : Int32)))), .val (.int (fpc (XT.ushr p1 (16 : Int32)))), .unset, .unset, .unset, .unset, .unset, .unset, .unset, .unset, .unset] [(.int ((XT.ushr p3 (4 : Int32)) &&& (1 : Int32)))])) _
    refine st6 _ ?_
    show Steps p.tables e below (T6.setTop (mkF m 60 #[.val (.int p1), .val (.int p2), .val (.int p3), .val (.int ((1 : Int32) + (f0_0 p1 p2 p3 cz))), .val (.int ((1 : Int32) + (f0_1 p1 p2 p3 cz))), .val (.int (fpc p1)), .val (.int (fpc (XT.ushr p1 (8 : Int32)))), .val (.int (fpc (XT.ushr p1 (16 : Int32)))), .unset, .unset, .unset, .unset, .unset, .unset, .unset, .unset, .unset] [(.int (f0_2 p1 p2 p3 cz))])) _
    refine XS.istore X6.here hx rfl (hb hby at_60) rfl (l' := #[.val (.int p1), .val (.int p2), .val (.int p3), .val (.int ((1 : Int32) + (f0_0 p1 p2 p3 cz))), .val (.int ((1 : Int32) + (f0_1 p1 p2 p3 cz))), .val (.int (fpc p1)), .val (.int (fpc (XT.ushr p1 (8 : Int32)))), .val (.int (fpc (XT.ushr p1 (16 : Int32)))), .val (.int (f0_2 p1 p2 p3 cz)), .unset, .unset, .unset, .unset, .unset, .unset, .unset, .unset]) rfl ?_
    show Steps p.tables e below (T6.setTop (mkF m 62 #[.val (.int p1), .val (.int p2), .val (.int p3), .val (.int ((1 : Int32) + (f0_0 p1 p2 p3 cz))), .val (.int ((1 : Int32) + (f0_1 p1 p2 p3 cz))), .val (.int (fpc p1)), .val (.int (fpc (XT.ushr p1 (8 : Int32)))), .val (.int (fpc (XT.ushr p1 (16 : Int32)))), .val (.int (f0_2 p1 p2 p3 cz)), .unset, .unset, .unset, .unset, .unset, .unset, .unset, .unset] [])) _
    refine XS.iloadN X6.here hx rfl (hb hby at_62) rfl ?_
    show Steps p.tables e below (T6.setTop (mkF m 63 #[.val (.int p1), .val (.int p2), .val (.int p3), .val (.int ((1 : Int32) + (f0_0 p1 p2 p3 cz))), .val (.int ((1 : Int32) + (f0_1 p1 p2 p3 cz))), .val (.int (fpc p1)), .val (.int (fpc (XT.ushr p1 (8 : Int32)))), .val (.int (fpc (XT.ushr p1 (16 : Int32)))), .val (.int (f0_2 p1 p2 p3 cz)), .unset, .unset, .unset, .unset, .unset, .unset, .unset, .unset] [(.int p3)])) _
    refine XS.iconst X6.here hx rfl (hb hby at_63) ?_
    show Steps p.tables e below (T6.setTop (mkF m 64 #[.val (.int p1), .val (.int p2), .val (.int p3), .val (.int ((1 : Int32) + (f0_0 p1 p2 p3 cz))), .val (.int ((1 : Int32) + (f0_1 p1 p2 p3 cz))), .val (.int (fpc p1)), .val (.int (fpc (XT.ushr p1 (8 : Int32)))), .val (.int (fpc (XT.ushr p1 (16 : Int32)))), .val (.int (f0_2 p1 p2 p3 cz)), .unset, .unset, .unset, .unset, .unset, .unset, .unset, .unset] [(.int (5 : Int32)), (.int p3)])) _
    refine XT.iushr X6.here hx rfl (hb hby at_64) rfl ?_
    show Steps p.tables e below (T6.setTop (mkF m 65 #[.val (.int p1), .val (.int p2), .val (.int p3), .val (.int ((1 : Int32) + (f0_0 p1 p2 p3 cz))), .val (.int ((1 : Int32) + (f0_1 p1 p2 p3 cz))), .val (.int (fpc p1)), .val (.int (fpc (XT.ushr p1 (8 : Int32)))), .val (.int (fpc (XT.ushr p1 (16 : Int32)))), .val (.int (f0_2 p1 p2 p3 cz)), .unset, .unset, .unset, .unset, .unset, .unset, .unset, .unset] [(.int (XT.ushr p3 (5 : Int32)))])) _
    refine XS.iconst X6.here hx rfl (hb hby at_65) ?_
    show Steps p.tables e below (T6.setTop (mkF m 66 #[.val (.int p1), .val (.int p2), .val (.int p3), .val (.int ((1 : Int32) + (f0_0 p1 p2 p3 cz))), .val (.int ((1 : Int32) + (f0_1 p1 p2 p3 cz))), .val (.int (fpc p1)), .val (.int (fpc (XT.ushr p1 (8 : Int32)))), .val (.int (fpc (XT.ushr p1 (16 : Int32)))), .val (.int (f0_2 p1 p2 p3 cz)), .unset, .unset, .unset, .unset, .unset, .unset, .unset, .unset] [(.int (1 : Int32)), (.int (XT.ushr p3 (5 : Int32)))])) _
    refine XS.iand X6.here hx rfl (hb hby at_66) rfl ?_
    show Steps p.tables e below (T6.setTop (mkF m 67 #[.val (.int p1), .val (.int p2), .val (.int p3), .val (.int ((1 : Int32) + (f0_0 p1 p2 p3 cz))), .val (.int ((1 : Int32) + (f0_1 p1 p2 p3 cz))), .val (.int (fpc p1)), .val (.int (fpc (XT.ushr p1 (8 : Int32)))), .val (.int (fpc (XT.ushr p1 (16 : Int32)))), .val (.int (f0_2 p1 p2 p3 cz)), .unset, .unset, .unset, .unset, .unset, .unset, .unset, .unset] [(.int ((XT.ushr p3 (5 : Int32)) &&& (1 : Int32)))])) _
    refine st9 _ ?_
    show Steps p.tables e below (T9.setTop (mkF m 82 #[.val (.int p1), .val (.int p2), .val (.int p3), .val (.int ((1 : Int32) + (f0_0 p1 p2 p3 cz))), .val (.int ((1 : Int32) + (f0_1 p1 p2 p3 cz))), .val (.int (fpc p1)), .val (.int (fpc (XT.ushr p1 (8 : Int32)))), .val (.int (fpc (XT.ushr p1 (16 : Int32)))), .val (.int (f0_2 p1 p2 p3 cz)), .unset, .unset, .unset, .unset, .unset, .unset, .unset, .unset] [(.int (f0_3 p1 p2 p3 cz))])) _
    refine XS.istore X9.here hx rfl (hb hby at_82) rfl (l' := #[.val (.int p1), .val (.int p2), .val (.int p3), .val (.int ((1 : Int32) + (f0_0 p1 p2 p3 cz))), .val (.int ((1 : Int32) + (f0_1 p1 p2 p3 cz))), .val (.int (fpc p1)), .val (.int (fpc (XT.ushr p1 (8 : Int32)))), .val (.int (fpc (XT.ushr p1 (16 : Int32)))), .val (.int (f0_2 p1 p2 p3 cz)), .val (.int (f0_3 p1 p2 p3 cz)), .unset, .unset, .unset, .unset, .unset, .unset, .unset]) rfl ?_
    show Steps p.tables e below (T9.setTop (mkF m 84 #[.val (.int p1), .val (.int p2), .val (.int p3), .val (.int ((1 : Int32) + (f0_0 p1 p2 p3 cz))), .val (.int ((1 : Int32) + (f0_1 p1 p2 p3 cz))), .val (.int (fpc p1)), .val (.int (fpc (XT.ushr p1 (8 : Int32)))), .val (.int (fpc (XT.ushr p1 (16 : Int32)))), .val (.int (f0_2 p1 p2 p3 cz)), .val (.int (f0_3 p1 p2 p3 cz)), .unset, .unset, .unset, .unset, .unset, .unset, .unset] [])) _
    refine XS.iloadN X9.here hx rfl (hb hby at_84) rfl ?_
    show Steps p.tables e below (T9.setTop (mkF m 85 #[.val (.int p1), .val (.int p2), .val (.int p3), .val (.int ((1 : Int32) + (f0_0 p1 p2 p3 cz))), .val (.int ((1 : Int32) + (f0_1 p1 p2 p3 cz))), .val (.int (fpc p1)), .val (.int (fpc (XT.ushr p1 (8 : Int32)))), .val (.int (fpc (XT.ushr p1 (16 : Int32)))), .val (.int (f0_2 p1 p2 p3 cz)), .val (.int (f0_3 p1 p2 p3 cz)), .unset, .unset, .unset, .unset, .unset, .unset, .unset] [(.int p3)])) _
    refine XS.bipush X9.here hx rfl (hb hby at_85) ?_
    show Steps p.tables e below (T9.setTop (mkF m 87 #[.val (.int p1), .val (.int p2), .val (.int p3), .val (.int ((1 : Int32) + (f0_0 p1 p2 p3 cz))), .val (.int ((1 : Int32) + (f0_1 p1 p2 p3 cz))), .val (.int (fpc p1)), .val (.int (fpc (XT.ushr p1 (8 : Int32)))), .val (.int (fpc (XT.ushr p1 (16 : Int32)))), .val (.int (f0_2 p1 p2 p3 cz)), .val (.int (f0_3 p1 p2 p3 cz)), .unset, .unset, .unset, .unset, .unset, .unset, .unset] [(.int (6 : Int32)), (.int p3)])) _
    refine XT.iushr X9.here hx rfl (hb hby at_87) rfl ?_
    show Steps p.tables e below (T9.setTop (mkF m 88 #[.val (.int p1), .val (.int p2), .val (.int p3), .val (.int ((1 : Int32) + (f0_0 p1 p2 p3 cz))), .val (.int ((1 : Int32) + (f0_1 p1 p2 p3 cz))), .val (.int (fpc p1)), .val (.int (fpc (XT.ushr p1 (8 : Int32)))), .val (.int (fpc (XT.ushr p1 (16 : Int32)))), .val (.int (f0_2 p1 p2 p3 cz)), .val (.int (f0_3 p1 p2 p3 cz)), .unset, .unset, .unset, .unset, .unset, .unset, .unset] [(.int (XT.ushr p3 (6 : Int32)))])) _
    refine XS.iconst X9.here hx rfl (hb hby at_88) ?_
    show Steps p.tables e below (T9.setTop (mkF m 89 #[.val (.int p1), .val (.int p2), .val (.int p3), .val (.int ((1 : Int32) + (f0_0 p1 p2 p3 cz))), .val (.int ((1 : Int32) + (f0_1 p1 p2 p3 cz))), .val (.int (fpc p1)), .val (.int (fpc (XT.ushr p1 (8 : Int32)))), .val (.int (fpc (XT.ushr p1 (16 : Int32)))), .val (.int (f0_2 p1 p2 p3 cz)), .val (.int (f0_3 p1 p2 p3 cz)), .unset, .unset, .unset, .unset, .unset, .unset, .unset] [(.int (1 : Int32)), (.int (XT.ushr p3 (6 : Int32)))])) _
    refine XS.iand X9.here hx rfl (hb hby at_89) rfl ?_
    show Steps p.tables e below (T9.setTop (mkF m 90 #[.val (.int p1), .val (.int p2), .val (.int p3), .val (.int ((1 : Int32) + (f0_0 p1 p2 p3 cz))), .val (.int ((1 : Int32) + (f0_1 p1 p2 p3 cz))), .val (.int (fpc p1)), .val (.int (fpc (XT.ushr p1 (8 : Int32)))), .val (.int (fpc (XT.ushr p1 (16 : Int32)))), .val (.int (f0_2 p1 p2 p3 cz)), .val (.int (f0_3 p1 p2 p3 cz)), .unset, .unset, .unset, .unset, .unset, .unset, .unset] [(.int ((XT.ushr p3 (6 : Int32)) &&& (1 : Int32)))])) _
    refine st12 _ ?_
    show Steps p.tables e below (T12.setTop (mkF m 105 #[.val (.int p1), .val (.int p2), .val (.int p3), .val (.int ((1 : Int32) + (f0_0 p1 p2 p3 cz))), .val (.int ((1 : Int32) + (f0_1 p1 p2 p3 cz))), .val (.int (fpc p1)), .val (.int (fpc (XT.ushr p1 (8 : Int32)))), .val (.int (fpc (XT.ushr p1 (16 : Int32)))), .val (.int (f0_2 p1 p2 p3 cz)), .val (.int (f0_3 p1 p2 p3 cz)), .unset, .unset, .unset, .unset, .unset, .unset, .unset] [(.int (f0_4 p1 p2 p3 cz))])) _
    refine XS.istore X12.here hx rfl (hb hby at_105) rfl (l' := #[.val (.int p1), .val (.int p2), .val (.int p3), .val (.int ((1 : Int32) + (f0_0 p1 p2 p3 cz))), .val (.int ((1 : Int32) + (f0_1 p1 p2 p3 cz))), .val (.int (fpc p1)), .val (.int (fpc (XT.ushr p1 (8 : Int32)))), .val (.int (fpc (XT.ushr p1 (16 : Int32)))), .val (.int (f0_2 p1 p2 p3 cz)), .val (.int (f0_3 p1 p2 p3 cz)), .val (.int (f0_4 p1 p2 p3 cz)), .unset, .unset, .unset, .unset, .unset, .unset]) rfl ?_
    show Steps p.tables e below (T12.setTop (mkF m 107 #[.val (.int p1), .val (.int p2), .val (.int p3), .val (.int ((1 : Int32) + (f0_0 p1 p2 p3 cz))), .val (.int ((1 : Int32) + (f0_1 p1 p2 p3 cz))), .val (.int (fpc p1)), .val (.int (fpc (XT.ushr p1 (8 : Int32)))), .val (.int (fpc (XT.ushr p1 (16 : Int32)))), .val (.int (f0_2 p1 p2 p3 cz)), .val (.int (f0_3 p1 p2 p3 cz)), .val (.int (f0_4 p1 p2 p3 cz)), .unset, .unset, .unset, .unset, .unset, .unset] [])) _
    refine st13 _ ?_
    show Steps p.tables e below (T13.setTop (mkF m 110 #[.val (.int p1), .val (.int p2), .val (.int p3), .val (.int ((1 : Int32) + (f0_0 p1 p2 p3 cz))), .val (.int ((1 : Int32) + (f0_1 p1 p2 p3 cz))), .val (.int (fpc p1)), .val (.int (fpc (XT.ushr p1 (8 : Int32)))), .val (.int (fpc (XT.ushr p1 (16 : Int32)))), .val (.int (f0_2 p1 p2 p3 cz)), .val (.int (f0_3 p1 p2 p3 cz)), .val (.int (f0_4 p1 p2 p3 cz)), .unset, .unset, .unset, .unset, .unset, .unset] [(.ref o13)])) _
    refine XS.dup X13.here hx rfl (hb hby at_110) rfl rfl ?_
    show Steps p.tables e below (T13.setTop (mkF m 111 #[.val (.int p1), .val (.int p2), .val (.int p3), .val (.int ((1 : Int32) + (f0_0 p1 p2 p3 cz))), .val (.int ((1 : Int32) + (f0_1 p1 p2 p3 cz))), .val (.int (fpc p1)), .val (.int (fpc (XT.ushr p1 (8 : Int32)))), .val (.int (fpc (XT.ushr p1 (16 : Int32)))), .val (.int (f0_2 p1 p2 p3 cz)), .val (.int (f0_3 p1 p2 p3 cz)), .val (.int (f0_4 p1 p2 p3 cz)), .unset, .unset, .unset, .unset, .unset, .unset] [(.ref o13), (.ref o13)])) _
    refine XS.iloadN X13.here hx rfl (hb hby at_111) rfl ?_
    show Steps p.tables e below (T13.setTop (mkF m 112 #[.val (.int p1), .val (.int p2), .val (.int p3), .val (.int ((1 : Int32) + (f0_0 p1 p2 p3 cz))), .val (.int ((1 : Int32) + (f0_1 p1 p2 p3 cz))), .val (.int (fpc p1)), .val (.int (fpc (XT.ushr p1 (8 : Int32)))), .val (.int (fpc (XT.ushr p1 (16 : Int32)))), .val (.int (f0_2 p1 p2 p3 cz)), .val (.int (f0_3 p1 p2 p3 cz)), .val (.int (f0_4 p1 p2 p3 cz)), .unset, .unset, .unset, .unset, .unset, .unset] [(.int ((1 : Int32) + (f0_0 p1 p2 p3 cz))), (.ref o13), (.ref o13)])) _
    refine XS.iload X13.here hx rfl (hb hby at_112) rfl ?_
    show Steps p.tables e below (T13.setTop (mkF m 114 #[.val (.int p1), .val (.int p2), .val (.int p3), .val (.int ((1 : Int32) + (f0_0 p1 p2 p3 cz))), .val (.int ((1 : Int32) + (f0_1 p1 p2 p3 cz))), .val (.int (fpc p1)), .val (.int (fpc (XT.ushr p1 (8 : Int32)))), .val (.int (fpc (XT.ushr p1 (16 : Int32)))), .val (.int (f0_2 p1 p2 p3 cz)), .val (.int (f0_3 p1 p2 p3 cz)), .val (.int (f0_4 p1 p2 p3 cz)), .unset, .unset, .unset, .unset, .unset, .unset] [(.int (fpc p1)), (.int ((1 : Int32) + (f0_0 p1 p2 p3 cz))), (.ref o13), (.ref o13)])) _
    refine XS.iload X13.here hx rfl (hb hby at_114) rfl ?_
    show Steps p.tables e below (T13.setTop (mkF m 116 #[.val (.int p1), .val (.int p2), .val (.int p3), .val (.int ((1 : Int32) + (f0_0 p1 p2 p3 cz))), .val (.int ((1 : Int32) + (f0_1 p1 p2 p3 cz))), .val (.int (fpc p1)), .val (.int (fpc (XT.ushr p1 (8 : Int32)))), .val (.int (fpc (XT.ushr p1 (16 : Int32)))), .val (.int (f0_2 p1 p2 p3 cz)), .val (.int (f0_3 p1 p2 p3 cz)), .val (.int (f0_4 p1 p2 p3 cz)), .unset, .unset, .unset, .unset, .unset, .unset] [(.int (fpc (XT.ushr p1 (8 : Int32)))), (.int (fpc p1)), (.int ((1 : Int32) + (f0_0 p1 p2 p3 cz))), (.ref o13), (.ref o13)])) _
    refine XS.iload X13.here hx rfl (hb hby at_116) rfl ?_
    show Steps p.tables e below (T13.setTop (mkF m 118 #[.val (.int p1), .val (.int p2), .val (.int p3), .val (.int ((1 : Int32) + (f0_0 p1 p2 p3 cz))), .val (.int ((1 : Int32) + (f0_1 p1 p2 p3 cz))), .val (.int (fpc p1)), .val (.int (fpc (XT.ushr p1 (8 : Int32)))), .val (.int (fpc (XT.ushr p1 (16 : Int32)))), .val (.int (f0_2 p1 p2 p3 cz)), .val (.int (f0_3 p1 p2 p3 cz)), .val (.int (f0_4 p1 p2 p3 cz)), .unset, .unset, .unset, .unset, .unset, .unset] [(.int (fpc (XT.ushr p1 (16 : Int32)))), (.int (fpc (XT.ushr p1 (8 : Int32)))), (.int (fpc p1)), (.int ((1 : Int32) + (f0_0 p1 p2 p3 cz))), (.ref o13), (.ref o13)])) _
    refine st14 _ ?_
    show Steps p.tables e below (T14.setTop (mkF m 121 #[.val (.int p1), .val (.int p2), .val (.int p3), .val (.int ((1 : Int32) + (f0_0 p1 p2 p3 cz))), .val (.int ((1 : Int32) + (f0_1 p1 p2 p3 cz))), .val (.int (fpc p1)), .val (.int (fpc (XT.ushr p1 (8 : Int32)))), .val (.int (fpc (XT.ushr p1 (16 : Int32)))), .val (.int (f0_2 p1 p2 p3 cz)), .val (.int (f0_3 p1 p2 p3 cz)), .val (.int (f0_4 p1 p2 p3 cz)), .unset, .unset, .unset, .unset, .unset, .unset] [(.ref r14), (.ref o13), (.ref o13)])) _
    refine st15.trans ?_
    show Steps p.tables e below (T15.setTop (mkF m 124 #[.val (.int p1), .val (.int p2), .val (.int p3), .val (.int ((1 : Int32) + (f0_0 p1 p2 p3 cz))), .val (.int ((1 : Int32) + (f0_1 p1 p2 p3 cz))), .val (.int (fpc p1)), .val (.int (fpc (XT.ushr p1 (8 : Int32)))), .val (.int (fpc (XT.ushr p1 (16 : Int32)))), .val (.int (f0_2 p1 p2 p3 cz)), .val (.int (f0_3 p1 p2 p3 cz)), .val (.int (f0_4 p1 p2 p3 cz)), .unset, .unset, .unset, .unset, .unset, .unset] [(.ref o13)])) _
    refine XS.astore X15.here hx rfl (hb hby at_124) rfl rfl (l' := #[.val (.int p1), .val (.int p2), .val (.int p3), .val (.int ((1 : Int32) + (f0_0 p1 p2 p3 cz))), .val (.int ((1 : Int32) + (f0_1 p1 p2 p3 cz))), .val (.int (fpc p1)), .val (.int (fpc (XT.ushr p1 (8 : Int32)))), .val (.int (fpc (XT.ushr p1 (16 : Int32)))), .val (.int (f0_2 p1 p2 p3 cz)), .val (.int (f0_3 p1 p2 p3 cz)), .val (.int (f0_4 p1 p2 p3 cz)), .val (.ref o13), .unset, .unset, .unset, .unset, .unset]) rfl ?_
    show Steps p.tables e below (T15.setTop (mkF m 126 #[.val (.int p1), .val (.int p2), .val (.int p3), .val (.int ((1 : Int32) + (f0_0 p1 p2 p3 cz))), .val (.int ((1 : Int32) + (f0_1 p1 p2 p3 cz))), .val (.int (fpc p1)), .val (.int (fpc (XT.ushr p1 (8 : Int32)))), .val (.int (fpc (XT.ushr p1 (16 : Int32)))), .val (.int (f0_2 p1 p2 p3 cz)), .val (.int (f0_3 p1 p2 p3 cz)), .val (.int (f0_4 p1 p2 p3 cz)), .val (.ref o13), .unset, .unset, .unset, .unset, .unset] [])) _
    refine XS.iload X15.here hx rfl (hb hby at_126) rfl ?_
    show Steps p.tables e below (T15.setTop (mkF m 128 #[.val (.int p1), .val (.int p2), .val (.int p3), .val (.int ((1 : Int32) + (f0_0 p1 p2 p3 cz))), .val (.int ((1 : Int32) + (f0_1 p1 p2 p3 cz))), .val (.int (fpc p1)), .val (.int (fpc (XT.ushr p1 (8 : Int32)))), .val (.int (fpc (XT.ushr p1 (16 : Int32)))), .val (.int (f0_2 p1 p2 p3 cz)), .val (.int (f0_3 p1 p2 p3 cz)), .val (.int (f0_4 p1 p2 p3 cz)), .val (.ref o13), .unset, .unset, .unset, .unset, .unset] [(.int ((1 : Int32) + (f0_1 p1 p2 p3 cz)))])) _
    refine XS.iload X15.here hx rfl (hb hby at_128) rfl ?_
    show Steps p.tables e below (T15.setTop (mkF m 130 #[.val (.int p1), .val (.int p2), .val (.int p3), .val (.int ((1 : Int32) + (f0_0 p1 p2 p3 cz))), .val (.int ((1 : Int32) + (f0_1 p1 p2 p3 cz))), .val (.int (fpc p1)), .val (.int (fpc (XT.ushr p1 (8 : Int32)))), .val (.int (fpc (XT.ushr p1 (16 : Int32)))), .val (.int (f0_2 p1 p2 p3 cz)), .val (.int (f0_3 p1 p2 p3 cz)), .val (.int (f0_4 p1 p2 p3 cz)), .val (.ref o13), .unset, .unset, .unset, .unset, .unset] [(.int (f0_2 p1 p2 p3 cz)), (.int ((1 : Int32) + (f0_1 p1 p2 p3 cz)))])) _
    refine XS.iload X15.here hx rfl (hb hby at_130) rfl ?_
    show Steps p.tables e below (T15.setTop (mkF m 132 #[.val (.int p1), .val (.int p2), .val (.int p3), .val (.int ((1 : Int32) + (f0_0 p1 p2 p3 cz))), .val (.int ((1 : Int32) + (f0_1 p1 p2 p3 cz))), .val (.int (fpc p1)), .val (.int (fpc (XT.ushr p1 (8 : Int32)))), .val (.int (fpc (XT.ushr p1 (16 : Int32)))), .val (.int (f0_2 p1 p2 p3 cz)), .val (.int (f0_3 p1 p2 p3 cz)), .val (.int (f0_4 p1 p2 p3 cz)), .val (.ref o13), .unset, .unset, .unset, .unset, .unset] [(.int (f0_3 p1 p2 p3 cz)), (.int (f0_2 p1 p2 p3 cz)), (.int ((1 : Int32) + (f0_1 p1 p2 p3 cz)))])) _
    refine XS.iload X15.here hx rfl (hb hby at_132) rfl ?_
    show Steps p.tables e below (T15.setTop (mkF m 134 #[.val (.int p1), .val (.int p2), .val (.int p3), .val (.int ((1 : Int32) + (f0_0 p1 p2 p3 cz))), .val (.int ((1 : Int32) + (f0_1 p1 p2 p3 cz))), .val (.int (fpc p1)), .val (.int (fpc (XT.ushr p1 (8 : Int32)))), .val (.int (fpc (XT.ushr p1 (16 : Int32)))), .val (.int (f0_2 p1 p2 p3 cz)), .val (.int (f0_3 p1 p2 p3 cz)), .val (.int (f0_4 p1 p2 p3 cz)), .val (.ref o13), .unset, .unset, .unset, .unset, .unset] [(.int (f0_4 p1 p2 p3 cz)), (.int (f0_3 p1 p2 p3 cz)), (.int (f0_2 p1 p2 p3 cz)), (.int ((1 : Int32) + (f0_1 p1 p2 p3 cz)))])) _
    refine st16 _ ?_
    show Steps p.tables e below (T16.setTop (mkF m 137 #[.val (.int p1), .val (.int p2), .val (.int p3), .val (.int ((1 : Int32) + (f0_0 p1 p2 p3 cz))), .val (.int ((1 : Int32) + (f0_1 p1 p2 p3 cz))), .val (.int (fpc p1)), .val (.int (fpc (XT.ushr p1 (8 : Int32)))), .val (.int (fpc (XT.ushr p1 (16 : Int32)))), .val (.int (f0_2 p1 p2 p3 cz)), .val (.int (f0_3 p1 p2 p3 cz)), .val (.int (f0_4 p1 p2 p3 cz)), .val (.ref o13), .unset, .unset, .unset, .unset, .unset] [(.ref r16)])) _
    refine XS.astore X16.here hx rfl (hb hby at_137) rfl rfl (l' := #[.val (.int p1), .val (.int p2), .val (.int p3), .val (.int ((1 : Int32) + (f0_0 p1 p2 p3 cz))), .val (.int ((1 : Int32) + (f0_1 p1 p2 p3 cz))), .val (.int (fpc p1)), .val (.int (fpc (XT.ushr p1 (8 : Int32)))), .val (.int (fpc (XT.ushr p1 (16 : Int32)))), .val (.int (f0_2 p1 p2 p3 cz)), .val (.int (f0_3 p1 p2 p3 cz)), .val (.int (f0_4 p1 p2 p3 cz)), .val (.ref o13), .val (.ref r16), .unset, .unset, .unset, .unset]) rfl ?_
    show Steps p.tables e below (T16.setTop (mkF m 139 #[.val (.int p1), .val (.int p2), .val (.int p3), .val (.int ((1 : Int32) + (f0_0 p1 p2 p3 cz))), .val (.int ((1 : Int32) + (f0_1 p1 p2 p3 cz))), .val (.int (fpc p1)), .val (.int (fpc (XT.ushr p1 (8 : Int32)))), .val (.int (fpc (XT.ushr p1 (16 : Int32)))), .val (.int (f0_2 p1 p2 p3 cz)), .val (.int (f0_3 p1 p2 p3 cz)), .val (.int (f0_4 p1 p2 p3 cz)), .val (.ref o13), .val (.ref r16), .unset, .unset, .unset, .unset] [])) _
    refine XS.iloadN X16.here hx rfl (hb hby at_139) rfl ?_
    show Steps p.tables e below (T16.setTop (mkF m 140 #[.val (.int p1), .val (.int p2), .val (.int p3), .val (.int ((1 : Int32) + (f0_0 p1 p2 p3 cz))), .val (.int ((1 : Int32) + (f0_1 p1 p2 p3 cz))), .val (.int (fpc p1)), .val (.int (fpc (XT.ushr p1 (8 : Int32)))), .val (.int (fpc (XT.ushr p1 (16 : Int32)))), .val (.int (f0_2 p1 p2 p3 cz)), .val (.int (f0_3 p1 p2 p3 cz)), .val (.int (f0_4 p1 p2 p3 cz)), .val (.ref o13), .val (.ref r16), .unset, .unset, .unset, .unset] [(.int p3)])) _
    refine XS.bipush X16.here hx rfl (hb hby at_140) ?_
    show Steps p.tables e below (T16.setTop (mkF m 142 #[.val (.int p1), .val (.int p2), .val (.int p3), .val (.int ((1 : Int32) + (f0_0 p1 p2 p3 cz))), .val (.int ((1 : Int32) + (f0_1 p1 p2 p3 cz))), .val (.int (fpc p1)), .val (.int (fpc (XT.ushr p1 (8 : Int32)))), .val (.int (fpc (XT.ushr p1 (16 : Int32)))), .val (.int (f0_2 p1 p2 p3 cz)), .val (.int (f0_3 p1 p2 p3 cz)), .val (.int (f0_4 p1 p2 p3 cz)), .val (.ref o13), .val (.ref r16), .unset, .unset, .unset, .unset] [(.int (7 : Int32)), (.int p3)])) _
    refine XT.iushr X16.here hx rfl (hb hby at_142) rfl ?_
    show Steps p.tables e below (T16.setTop (mkF m 143 #[.val (.int p1), .val (.int p2), .val (.int p3), .val (.int ((1 : Int32) + (f0_0 p1 p2 p3 cz))), .val (.int ((1 : Int32) + (f0_1 p1 p2 p3 cz))), .val (.int (fpc p1)), .val (.int (fpc (XT.ushr p1 (8 : Int32)))), .val (.int (fpc (XT.ushr p1 (16 : Int32)))), .val (.int (f0_2 p1 p2 p3 cz)), .val (.int (f0_3 p1 p2 p3 cz)), .val (.int (f0_4 p1 p2 p3 cz)), .val (.ref o13), .val (.ref r16), .unset, .unset, .unset, .unset] [(.int (XT.ushr p3 (7 : Int32)))])) _
    refine XS.iconst X16.here hx rfl (hb hby at_143) ?_
    show Steps p.tables e below (T16.setTop (mkF m 144 #[.val (.int p1), .val (.int p2), .val (.int p3), .val (.int ((1 : Int32) + (f0_0 p1 p2 p3 cz))), .val (.int ((1 : Int32) + (f0_1 p1 p2 p3 cz))), .val (.int (fpc p1)), .val (.int (fpc (XT.ushr p1 (8 : Int32)))), .val (.int (fpc (XT.ushr p1 (16 : Int32)))), .val (.int (f0_2 p1 p2 p3 cz)), .val (.int (f0_3 p1 p2 p3 cz)), .val (.int (f0_4 p1 p2 p3 cz)), .val (.ref o13), .val (.ref r16), .unset, .unset, .unset, .unset] [(.int (3 : Int32)), (.int (XT.ushr p3 (7 : Int32)))])) _
    refine XS.iand X16.here hx rfl (hb hby at_144) rfl ?_
    show Steps p.tables e below (T16.setTop (mkF m 145 #[.val (.int p1), .val (.int p2), .val (.int p3), .val (.int ((1 : Int32) + (f0_0 p1 p2 p3 cz))), .val (.int ((1 : Int32) + (f0_1 p1 p2 p3 cz))), .val (.int (fpc p1)), .val (.int (fpc (XT.ushr p1 (8 : Int32)))), .val (.int (fpc (XT.ushr p1 (16 : Int32)))), .val (.int (f0_2 p1 p2 p3 cz)), .val (.int (f0_3 p1 p2 p3 cz)), .val (.int (f0_4 p1 p2 p3 cz)), .val (.ref o13), .val (.ref r16), .unset, .unset, .unset, .unset] [(.int ((XT.ushr p3 (7 : Int32)) &&& (3 : Int32)))])) _
    refine XS.istore X16.here hx rfl (hb hby at_145) rfl (l' := #[.val (.int p1), .val (.int p2), .val (.int p3), .val (.int ((1 : Int32) + (f0_0 p1 p2 p3 cz))), .val (.int ((1 : Int32) + (f0_1 p1 p2 p3 cz))), .val (.int (fpc p1)), .val (.int (fpc (XT.ushr p1 (8 : Int32)))), .val (.int (fpc (XT.ushr p1 (16 : Int32)))), .val (.int (f0_2 p1 p2 p3 cz)), .val (.int (f0_3 p1 p2 p3 cz)), .val (.int (f0_4 p1 p2 p3 cz)), .val (.ref o13), .val (.ref r16), .val (.int ((XT.ushr p3 (7 : Int32)) &&& (3 : Int32))), .unset, .unset, .unset]) rfl ?_
    show Steps p.tables e below (T16.setTop (mkF m 147 #[.val (.int p1), .val (.int p2), .val (.int p3), .val (.int ((1 : Int32) + (f0_0 p1 p2 p3 cz))), .val (.int ((1 : Int32) + (f0_1 p1 p2 p3 cz))), .val (.int (fpc p1)), .val (.int (fpc (XT.ushr p1 (8 : Int32)))), .val (.int (fpc (XT.ushr p1 (16 : Int32)))), .val (.int (f0_2 p1 p2 p3 cz)), .val (.int (f0_3 p1 p2 p3 cz)), .val (.int (f0_4 p1 p2 p3 cz)), .val (.ref o13), .val (.ref r16), .val (.int ((XT.ushr p3 (7 : Int32)) &&& (3 : Int32))), .unset, .unset, .unset] [])) _
    refine XS.iloadN X16.here hx rfl (hb hby at_147) rfl ?_
    show Steps p.tables e below (T16.setTop (mkF m 148 #[.val (.int p1), .val (.int p2), .val (.int p3), .val (.int ((1 : Int32) + (f0_0 p1 p2 p3 cz))), .val (.int ((1 : Int32) + (f0_1 p1 p2 p3 cz))), .val (.int (fpc p1)), .val (.int (fpc (XT.ushr p1 (8 : Int32)))), .val (.int (fpc (XT.ushr p1 (16 : Int32)))), .val (.int (f0_2 p1 p2 p3 cz)), .val (.int (f0_3 p1 p2 p3 cz)), .val (.int (f0_4 p1 p2 p3 cz)), .val (.ref o13), .val (.ref r16), .val (.int ((XT.ushr p3 (7 : Int32)) &&& (3 : Int32))), .unset, .unset, .unset] [(.int ((1 : Int32) + (f0_0 p1 p2 p3 cz)))])) _
    refine XS.iload X16.here hx rfl (hb hby at_148) rfl ?_
    show Steps p.tables e below (T16.setTop (mkF m 150 #[.val (.int p1), .val (.int p2), .val (.int p3), .val (.int ((1 : Int32) + (f0_0 p1 p2 p3 cz))), .val (.int ((1 : Int32) + (f0_1 p1 p2 p3 cz))), .val (.int (fpc p1)), .val (.int (fpc (XT.ushr p1 (8 : Int32)))), .val (.int (fpc (XT.ushr p1 (16 : Int32)))), .val (.int (f0_2 p1 p2 p3 cz)), .val (.int (f0_3 p1 p2 p3 cz)), .val (.int (f0_4 p1 p2 p3 cz)), .val (.ref o13), .val (.ref r16), .val (.int ((XT.ushr p3 (7 : Int32)) &&& (3 : Int32))), .unset, .unset, .unset] [(.int ((1 : Int32) + (f0_1 p1 p2 p3 cz))), (.int ((1 : Int32) + (f0_0 p1 p2 p3 cz)))])) _
    refine st32 _ ?_
    show Steps p.tables e below (T16.setTop (mkF m 189 #[.val (.int p1), .val (.int p2), .val (.int p3), .val (.int ((1 : Int32) + (f0_0 p1 p2 p3 cz))), .val (.int ((1 : Int32) + (f0_1 p1 p2 p3 cz))), .val (.int (fpc p1)), .val (.int (fpc (XT.ushr p1 (8 : Int32)))), .val (.int (fpc (XT.ushr p1 (16 : Int32)))), .val (.int (f0_2 p1 p2 p3 cz)), .val (.int (f0_3 p1 p2 p3 cz)), .val (.int (f0_4 p1 p2 p3 cz)), .val (.ref o13), .val (.ref r16), .val (.int ((XT.ushr p3 (7 : Int32)) &&& (3 : Int32))), .unset, .unset, .unset] [(.int (f0_10 p1 p2 p3 cz))])) _
    refine XS.istore X16.here hx rfl (hb hby at_189) rfl (l' := #[.val (.int p1), .val (.int p2), .val (.int p3), .val (.int ((1 : Int32) + (f0_0 p1 p2 p3 cz))), .val (.int ((1 : Int32) + (f0_1 p1 p2 p3 cz))), .val (.int (fpc p1)), .val (.int (fpc (XT.ushr p1 (8 : Int32)))), .val (.int (fpc (XT.ushr p1 (16 : Int32)))), .val (.int (f0_2 p1 p2 p3 cz)), .val (.int (f0_3 p1 p2 p3 cz)), .val (.int (f0_4 p1 p2 p3 cz)), .val (.ref o13), .val (.ref r16), .val (.int ((XT.ushr p3 (7 : Int32)) &&& (3 : Int32))), .val (.int (f0_10 p1 p2 p3 cz)), .unset, .unset]) rfl ?_
    show Steps p.tables e below (T16.setTop (mkF m 191 #[.val (.int p1), .val (.int p2), .val (.int p3), .val (.int ((1 : Int32) + (f0_0 p1 p2 p3 cz))), .val (.int ((1 : Int32) + (f0_1 p1 p2 p3 cz))), .val (.int (fpc p1)), .val (.int (fpc (XT.ushr p1 (8 : Int32)))), .val (.int (fpc (XT.ushr p1 (16 : Int32)))), .val (.int (f0_2 p1 p2 p3 cz)), .val (.int (f0_3 p1 p2 p3 cz)), .val (.int (f0_4 p1 p2 p3 cz)), .val (.ref o13), .val (.ref r16), .val (.int ((XT.ushr p3 (7 : Int32)) &&& (3 : Int32))), .val (.int (f0_10 p1 p2 p3 cz)), .unset, .unset] [])) _
    refine XS.iload X16.here hx rfl (hb hby at_191) rfl ?_
    exact k
  by_cases h33 : ((XT.ushr p3 (7 : Int32)) &&& (3 : Int32)) = (0 : Int32)
  · obtain ⟨T34, h34, X34, e34, E34, A34, D34, -, st34⟩ := newO X16 hx hZ hown (hw _ (List.mem_of_getElem? (i := 4) rfl)) (hw _ (List.mem_of_getElem? (i := 5) rfl)) (hw _ (List.mem_of_getElem? (i := 6) rfl)) rfl (g := (mkF m 196 #[.val (.int p1), .val (.int p2), .val (.int p3), .val (.int ((1 : Int32) + (f0_0 p1 p2 p3 cz))), .val (.int ((1 : Int32) + (f0_1 p1 p2 p3 cz))), .val (.int (fpc p1)), .val (.int (fpc (XT.ushr p1 (8 : Int32)))), .val (.int (fpc (XT.ushr p1 (16 : Int32)))), .val (.int (f0_2 p1 p2 p3 cz)), .val (.int (f0_3 p1 p2 p3 cz)), .val (.int (f0_4 p1 p2 p3 cz)), .val (.ref o13), .val (.ref r16), .val (.int ((XT.ushr p3 (7 : Int32)) &&& (3 : Int32))), .val (.int (f0_10 p1 p2 p3 cz)), .unset, .unset] [])) rfl (hb hby at_196) (by decide) (by decide)
    obtain ⟨o34, g34⟩ : ∃ z, z = T16.heap.size := ⟨_, rfl⟩
    rw [← g34] at A34 D34 st34
    have ne34_1 : o13 ≠ o34 := Nat.ne_of_lt (Nat.lt_of_lt_of_le u16_0.lt (Nat.le_of_eq g34.symm))
    have ne34_2 : r14 ≠ o34 := Nat.ne_of_lt (Nat.lt_of_lt_of_le u16_1.lt (Nat.le_of_eq g34.symm))
    have ne34_3 : r16 ≠ o34 := Nat.ne_of_lt (Nat.lt_of_lt_of_le c16_0.lt (Nat.le_of_eq g34.symm))
    have u34_0 := u16_0.ext E34
    have u34_1 := u16_1.ext E34
    have u34_2 := u16_2.ext E34
    have u34_3 := u16_3.ext E34
    have u34_4 := c16_0.ext E34
    have u34_5 := c16_1.ext E34
    have ge34 : n0 ≤ o34 := Nat.le_trans Z16 (Nat.le_of_eq g34.symm)
    have Z34 : n0 ≤ h34.size := Nat.le_trans Z16 E34.1
    have hg34 := Nat.le_trans hg16 E34.1
    have sz34 : h0.size ≤ o34 := Nat.le_trans K16.1 (Nat.le_of_eq g34.symm)
    have K34 := K16.ext E34
    have OL34 := OL16.ext E34
    have D34_90 : Fld Z h34 o34 "com/example/hitotabi/hitotabi/IdempotencyKey" "value" "Ljava/lang/String;" .null := D34 (Or.inr (hw _ (List.mem_of_getElem? (i := 90) rfl))) (ty := (.object "java/lang/String")) (by decide)
    obtain ⟨_, _, ⟨T35, L35, k35, n35⟩, -, Xw35, hsn35, hgr35, ⟨Lc35, hQ35, l35, y35, z35⟩, st35⟩ := X34.specialBackS hx (y := (⟨"com/example/hitotabi/hitotabi/IdempotencyKey", "<init>", "(Ljava/lang/String;)V"⟩ : MethodName)) rfl hown (mvT hZ (hw _ (List.mem_of_getElem? (i := 40) rfl))) (mvT hZ (hw _ (List.mem_of_getElem? (i := 41) rfl))) (mvT hZ (hw _ (List.mem_of_getElem? (i := 42) rfl))) (by decide) (backOfS (W := 1) (rmini l Z a0 hw [] o34 r16 (fmk_x0 ((1 : Int32) + (f0_1 p1 p2 p3 cz)) (f0_2 p1 p2 p3 cz) (f0_3 p1 p2 p3 cz) (f0_4 p1 p2 p3 cz) cz) cz sf h34 n0 Z34 OL34 ge34 A34 D34_90 u34_5 (own_okmk _ _ _ _ _ (by unfold f0_2; split <;> exact own_prpc _) (by unfold f0_3; split <;> exact own_prpc _) (by unfold f0_4; split <;> exact own_prpc _)) hCS hcz hSF hsf) hZ (hw _ (List.mem_of_getElem? (i := 42) rfl)) (hw _ (List.mem_of_getElem? (i := 6) rfl)) (by decide) (by decide)) (g := (mkF m 202 #[.val (.int p1), .val (.int p2), .val (.int p3), .val (.int ((1 : Int32) + (f0_0 p1 p2 p3 cz))), .val (.int ((1 : Int32) + (f0_1 p1 p2 p3 cz))), .val (.int (fpc p1)), .val (.int (fpc (XT.ushr p1 (8 : Int32)))), .val (.int (fpc (XT.ushr p1 (16 : Int32)))), .val (.int (f0_2 p1 p2 p3 cz)), .val (.int (f0_3 p1 p2 p3 cz)), .val (.int (f0_4 p1 p2 p3 cz)), .val (.ref o13), .val (.ref r16), .val (.int ((XT.ushr p3 (7 : Int32)) &&& (3 : Int32))), .val (.int (f0_10 p1 p2 p3 cz)), .unset, .unset] [(.ref r16), (.ref o34), (.ref o34)])) rfl (by rw [hml]; rfl) (Steps.refl _) (a := o34) (argsL := [(.ref r16)]) (rest := [(.ref o34)]) (lenOf pd_11 rfl) rfl (by show 2 * 0 + _ ≤ _; exact Nat.le_of_eq rfl) (hb hby at_202) (fun _ _ => ⟨rfl, e34, (by decide : 12 + 4 ≤ _), (by decide : 110 + 88 ≤ _)⟩)
    dsimp only [Pt.U, Pt.locs, Pt.cells, Pt.slots] at Xw35 l35 y35 z35 st35 hQ35 hsn35 hgr35
    subst l35 y35 z35
    obtain ⟨X35, hS35, hZ, hown⟩ := rebS hS15 (by rw [e34]; exact hg34) Xw35 hsn35 hgr35 hZ hown
    obtain ⟨rfl, N35q, Kc35, c35_0, c35_1⟩ := hQ35
    have N35 := Fr.app N16 N35q
    have u35_0 := u34_0.keep Kc35
    have u35_1 := u34_1.keep Kc35
    have u35_2 := own_Str.keep u34_2 Kc35 A34 (by decide) (hw _ (List.mem_of_getElem? (i := 5) rfl))
    have u35_3 := u34_3.keep Kc35 (by simp only [List.mem_cons, List.not_mem_nil, or_false, not_or]; exact ne34_1)
    have u35_4 := u34_4.keep Kc35
    have u35_5 := own_Str.keep u34_5 Kc35 A34 (by decide) (hw _ (List.mem_of_getElem? (i := 5) rfl))
    have u35_6 := A34.keep Kc35
    have OL35 := OL34.keep Kc35 (fun x hx => by cases List.mem_singleton.mp hx; exact ge34)
    have K35 := K34.trans Kc35 (fun x hx => by cases List.mem_singleton.mp hx; exact Or.inr sz34)
    have Z35 : n0 ≤ T35.heap.size := Nat.le_trans Z34 Kc35.1
    have hg35 := Nat.le_trans hg34 Kc35.1
    have hk35 : T35.heap.size ≤ T35.heap.size := Nat.le_refl _
    obtain ⟨cq36, kq36, q36a, q36b, q36c⟩ := isOf hZ rfl u35_0
    obtain ⟨_, _, ⟨T36, L36, k36, n36⟩, -, X36, ⟨Lc36, hQ36, l36, y36, z36⟩, st36⟩ := X35.virtualBack hx (y := (⟨"com/example/hitotabi/hitotabi/IdempotencyKey", "equals", "(Ljava/lang/Object;)Z"⟩ : MethodName)) (z := (⟨"com/example/hitotabi/hitotabi/IdempotencyKey", "equals", "(Ljava/lang/Object;)Z"⟩ : MethodName)) hown (mvT hZ (hw _ (List.mem_of_getElem? (i := 91) rfl))) (mvT hZ (hw _ (List.mem_of_getElem? (i := 92) rfl))) (notFace_of_selects (args := #[]) (mvT hZ (hw _ (List.mem_of_getElem? (i := 94) rfl)))) (mvT hZ (hw _ (List.mem_of_getElem? (i := 94) rfl))) (mvT hZ (hw _ (List.mem_of_getElem? (i := 93) rfl))) (by decide) (backOf (W := 0) (rmeqk l Z a0 hw [] o13 o34 r14 r16 (fmk_x0 ((1 : Int32) + (f0_0 p1 p2 p3 cz)) (fpc p1) (fpc (XT.ushr p1 (8 : Int32))) (fpc (XT.ushr p1 (16 : Int32))) cz) (fmk_x0 ((1 : Int32) + (f0_1 p1 p2 p3 cz)) (f0_2 p1 p2 p3 cz) (f0_3 p1 p2 p3 cz) (f0_4 p1 p2 p3 cz) cz) cz T35.heap n0 Z35 OL35 u35_0 c35_0 u35_3 c35_1 u35_2 u35_5 hCS hcz) hZ (hw _ (List.mem_of_getElem? (i := 95) rfl)) (hw _ (List.mem_of_getElem? (i := 6) rfl)) (by decide) (by decide)) q36a q36c (g := (mkF m 211 #[.val (.int p1), .val (.int p2), .val (.int p3), .val (.int ((1 : Int32) + (f0_0 p1 p2 p3 cz))), .val (.int ((1 : Int32) + (f0_1 p1 p2 p3 cz))), .val (.int (fpc p1)), .val (.int (fpc (XT.ushr p1 (8 : Int32)))), .val (.int (fpc (XT.ushr p1 (16 : Int32)))), .val (.int (f0_2 p1 p2 p3 cz)), .val (.int (f0_3 p1 p2 p3 cz)), .val (.int (f0_4 p1 p2 p3 cz)), .val (.ref o13), .val (.ref r16), .val (.int ((XT.ushr p3 (7 : Int32)) &&& (3 : Int32))), .val (.int (f0_10 p1 p2 p3 cz)), .val (.ref o34), .unset] [(.ref o34), (.ref o13)])) rfl (by rw [hml]; rfl) (Steps.refl _) (argsL := [(.ref o34)]) (rest := []) (lenOf pd_8 rfl) rfl (by show 2 * 0 + _ ≤ _; exact Nat.le_of_eq rfl) (hb hby at_211) (fun _ _ => ⟨rfl, rfl, (by decide : 16 + 0 ≤ _), (by decide : 198 + 0 ≤ _)⟩)
    dsimp only [Pt.U, Pt.locs, Pt.cells, Pt.slots] at X36 l36 y36 z36 st36 hQ36
    subst l36 y36 z36
    obtain ⟨rfl, N36q, e36⟩ := hQ36
    have N36 := Fr.app N35 N36q
    refine own_step (B := T36.setTop (mkF m 220 #[.val (.int p1), .val (.int p2), .val (.int p3), .val (.int ((1 : Int32) + (f0_0 p1 p2 p3 cz))), .val (.int ((1 : Int32) + (f0_1 p1 p2 p3 cz))), .val (.int (fpc p1)), .val (.int (fpc (XT.ushr p1 (8 : Int32)))), .val (.int (fpc (XT.ushr p1 (16 : Int32)))), .val (.int (f0_2 p1 p2 p3 cz)), .val (.int (f0_3 p1 p2 p3 cz)), .val (.int (f0_4 p1 p2 p3 cz)), .val (.ref o13), .val (.ref r16), .val (.int ((XT.ushr p3 (7 : Int32)) &&& (3 : Int32))), .val (.int (f0_10 p1 p2 p3 cz)), .val (.ref o34), .val (.int (f0_11 p1 p2 p3 cz))] [(.int (f0_10 p1 p2 p3 cz)), (.int (f0_11 p1 p2 p3 cz))])) (fun t k => ?_) ?_
    · show Steps p.tables e below (T16.setTop (mkF m 193 #[.val (.int p1), .val (.int p2), .val (.int p3), .val (.int ((1 : Int32) + (f0_0 p1 p2 p3 cz))), .val (.int ((1 : Int32) + (f0_1 p1 p2 p3 cz))), .val (.int (fpc p1)), .val (.int (fpc (XT.ushr p1 (8 : Int32)))), .val (.int (fpc (XT.ushr p1 (16 : Int32)))), .val (.int (f0_2 p1 p2 p3 cz)), .val (.int (f0_3 p1 p2 p3 cz)), .val (.int (f0_4 p1 p2 p3 cz)), .val (.ref o13), .val (.ref r16), .val (.int ((XT.ushr p3 (7 : Int32)) &&& (3 : Int32))), .val (.int (f0_10 p1 p2 p3 cz)), .unset, .unset] [(.int ((XT.ushr p3 (7 : Int32)) &&& (3 : Int32)))])) _
      refine XS.ifNo X16.here hx rfl (hb hby at_193) rfl ((if0 _ _).trans (teq h33).2) ?_
      show Steps p.tables e below (T16.setTop (mkF m 196 #[.val (.int p1), .val (.int p2), .val (.int p3), .val (.int ((1 : Int32) + (f0_0 p1 p2 p3 cz))), .val (.int ((1 : Int32) + (f0_1 p1 p2 p3 cz))), .val (.int (fpc p1)), .val (.int (fpc (XT.ushr p1 (8 : Int32)))), .val (.int (fpc (XT.ushr p1 (16 : Int32)))), .val (.int (f0_2 p1 p2 p3 cz)), .val (.int (f0_3 p1 p2 p3 cz)), .val (.int (f0_4 p1 p2 p3 cz)), .val (.ref o13), .val (.ref r16), .val (.int ((XT.ushr p3 (7 : Int32)) &&& (3 : Int32))), .val (.int (f0_10 p1 p2 p3 cz)), .unset, .unset] [])) _
      refine st34 _ ?_
      show Steps p.tables e below (T34.setTop (mkF m 199 #[.val (.int p1), .val (.int p2), .val (.int p3), .val (.int ((1 : Int32) + (f0_0 p1 p2 p3 cz))), .val (.int ((1 : Int32) + (f0_1 p1 p2 p3 cz))), .val (.int (fpc p1)), .val (.int (fpc (XT.ushr p1 (8 : Int32)))), .val (.int (fpc (XT.ushr p1 (16 : Int32)))), .val (.int (f0_2 p1 p2 p3 cz)), .val (.int (f0_3 p1 p2 p3 cz)), .val (.int (f0_4 p1 p2 p3 cz)), .val (.ref o13), .val (.ref r16), .val (.int ((XT.ushr p3 (7 : Int32)) &&& (3 : Int32))), .val (.int (f0_10 p1 p2 p3 cz)), .unset, .unset] [(.ref o34)])) _
      refine XS.dup X34.here hx rfl (hb hby at_199) rfl rfl ?_
      show Steps p.tables e below (T34.setTop (mkF m 200 #[.val (.int p1), .val (.int p2), .val (.int p3), .val (.int ((1 : Int32) + (f0_0 p1 p2 p3 cz))), .val (.int ((1 : Int32) + (f0_1 p1 p2 p3 cz))), .val (.int (fpc p1)), .val (.int (fpc (XT.ushr p1 (8 : Int32)))), .val (.int (fpc (XT.ushr p1 (16 : Int32)))), .val (.int (f0_2 p1 p2 p3 cz)), .val (.int (f0_3 p1 p2 p3 cz)), .val (.int (f0_4 p1 p2 p3 cz)), .val (.ref o13), .val (.ref r16), .val (.int ((XT.ushr p3 (7 : Int32)) &&& (3 : Int32))), .val (.int (f0_10 p1 p2 p3 cz)), .unset, .unset] [(.ref o34), (.ref o34)])) _
      refine XS.aload X34.here hx rfl (hb hby at_200) rfl rfl ?_
      show Steps p.tables e below (T34.setTop (mkF m 202 #[.val (.int p1), .val (.int p2), .val (.int p3), .val (.int ((1 : Int32) + (f0_0 p1 p2 p3 cz))), .val (.int ((1 : Int32) + (f0_1 p1 p2 p3 cz))), .val (.int (fpc p1)), .val (.int (fpc (XT.ushr p1 (8 : Int32)))), .val (.int (fpc (XT.ushr p1 (16 : Int32)))), .val (.int (f0_2 p1 p2 p3 cz)), .val (.int (f0_3 p1 p2 p3 cz)), .val (.int (f0_4 p1 p2 p3 cz)), .val (.ref o13), .val (.ref r16), .val (.int ((XT.ushr p3 (7 : Int32)) &&& (3 : Int32))), .val (.int (f0_10 p1 p2 p3 cz)), .unset, .unset] [(.ref r16), (.ref o34), (.ref o34)])) _
      refine st35.trans ?_
      show Steps p.tables e below (T35.setTop (mkF m 205 #[.val (.int p1), .val (.int p2), .val (.int p3), .val (.int ((1 : Int32) + (f0_0 p1 p2 p3 cz))), .val (.int ((1 : Int32) + (f0_1 p1 p2 p3 cz))), .val (.int (fpc p1)), .val (.int (fpc (XT.ushr p1 (8 : Int32)))), .val (.int (fpc (XT.ushr p1 (16 : Int32)))), .val (.int (f0_2 p1 p2 p3 cz)), .val (.int (f0_3 p1 p2 p3 cz)), .val (.int (f0_4 p1 p2 p3 cz)), .val (.ref o13), .val (.ref r16), .val (.int ((XT.ushr p3 (7 : Int32)) &&& (3 : Int32))), .val (.int (f0_10 p1 p2 p3 cz)), .unset, .unset] [(.ref o34)])) _
      refine XS.astore X35.here hx rfl (hb hby at_205) rfl rfl (l' := #[.val (.int p1), .val (.int p2), .val (.int p3), .val (.int ((1 : Int32) + (f0_0 p1 p2 p3 cz))), .val (.int ((1 : Int32) + (f0_1 p1 p2 p3 cz))), .val (.int (fpc p1)), .val (.int (fpc (XT.ushr p1 (8 : Int32)))), .val (.int (fpc (XT.ushr p1 (16 : Int32)))), .val (.int (f0_2 p1 p2 p3 cz)), .val (.int (f0_3 p1 p2 p3 cz)), .val (.int (f0_4 p1 p2 p3 cz)), .val (.ref o13), .val (.ref r16), .val (.int ((XT.ushr p3 (7 : Int32)) &&& (3 : Int32))), .val (.int (f0_10 p1 p2 p3 cz)), .val (.ref o34), .unset]) rfl ?_
      show Steps p.tables e below (T35.setTop (mkF m 207 #[.val (.int p1), .val (.int p2), .val (.int p3), .val (.int ((1 : Int32) + (f0_0 p1 p2 p3 cz))), .val (.int ((1 : Int32) + (f0_1 p1 p2 p3 cz))), .val (.int (fpc p1)), .val (.int (fpc (XT.ushr p1 (8 : Int32)))), .val (.int (fpc (XT.ushr p1 (16 : Int32)))), .val (.int (f0_2 p1 p2 p3 cz)), .val (.int (f0_3 p1 p2 p3 cz)), .val (.int (f0_4 p1 p2 p3 cz)), .val (.ref o13), .val (.ref r16), .val (.int ((XT.ushr p3 (7 : Int32)) &&& (3 : Int32))), .val (.int (f0_10 p1 p2 p3 cz)), .val (.ref o34), .unset] [])) _
      refine XS.aload X35.here hx rfl (hb hby at_207) rfl rfl ?_
      show Steps p.tables e below (T35.setTop (mkF m 209 #[.val (.int p1), .val (.int p2), .val (.int p3), .val (.int ((1 : Int32) + (f0_0 p1 p2 p3 cz))), .val (.int ((1 : Int32) + (f0_1 p1 p2 p3 cz))), .val (.int (fpc p1)), .val (.int (fpc (XT.ushr p1 (8 : Int32)))), .val (.int (fpc (XT.ushr p1 (16 : Int32)))), .val (.int (f0_2 p1 p2 p3 cz)), .val (.int (f0_3 p1 p2 p3 cz)), .val (.int (f0_4 p1 p2 p3 cz)), .val (.ref o13), .val (.ref r16), .val (.int ((XT.ushr p3 (7 : Int32)) &&& (3 : Int32))), .val (.int (f0_10 p1 p2 p3 cz)), .val (.ref o34), .unset] [(.ref o13)])) _
      refine XS.aload X35.here hx rfl (hb hby at_209) rfl rfl ?_
      show Steps p.tables e below (T35.setTop (mkF m 211 #[.val (.int p1), .val (.int p2), .val (.int p3), .val (.int ((1 : Int32) + (f0_0 p1 p2 p3 cz))), .val (.int ((1 : Int32) + (f0_1 p1 p2 p3 cz))), .val (.int (fpc p1)), .val (.int (fpc (XT.ushr p1 (8 : Int32)))), .val (.int (fpc (XT.ushr p1 (16 : Int32)))), .val (.int (f0_2 p1 p2 p3 cz)), .val (.int (f0_3 p1 p2 p3 cz)), .val (.int (f0_4 p1 p2 p3 cz)), .val (.ref o13), .val (.ref r16), .val (.int ((XT.ushr p3 (7 : Int32)) &&& (3 : Int32))), .val (.int (f0_10 p1 p2 p3 cz)), .val (.ref o34), .unset] [(.ref o34), (.ref o13)])) _
      refine st36.trans ?_
      show Steps p.tables e below (T36.setTop (mkF m 214 #[.val (.int p1), .val (.int p2), .val (.int p3), .val (.int ((1 : Int32) + (f0_0 p1 p2 p3 cz))), .val (.int ((1 : Int32) + (f0_1 p1 p2 p3 cz))), .val (.int (fpc p1)), .val (.int (fpc (XT.ushr p1 (8 : Int32)))), .val (.int (fpc (XT.ushr p1 (16 : Int32)))), .val (.int (f0_2 p1 p2 p3 cz)), .val (.int (f0_3 p1 p2 p3 cz)), .val (.int (f0_4 p1 p2 p3 cz)), .val (.ref o13), .val (.ref r16), .val (.int ((XT.ushr p3 (7 : Int32)) &&& (3 : Int32))), .val (.int (f0_10 p1 p2 p3 cz)), .val (.ref o34), .unset] [(.int (f0_11 p1 p2 p3 cz))])) _
      refine XS.istore X36.here hx rfl (hb hby at_214) rfl (l' := #[.val (.int p1), .val (.int p2), .val (.int p3), .val (.int ((1 : Int32) + (f0_0 p1 p2 p3 cz))), .val (.int ((1 : Int32) + (f0_1 p1 p2 p3 cz))), .val (.int (fpc p1)), .val (.int (fpc (XT.ushr p1 (8 : Int32)))), .val (.int (fpc (XT.ushr p1 (16 : Int32)))), .val (.int (f0_2 p1 p2 p3 cz)), .val (.int (f0_3 p1 p2 p3 cz)), .val (.int (f0_4 p1 p2 p3 cz)), .val (.ref o13), .val (.ref r16), .val (.int ((XT.ushr p3 (7 : Int32)) &&& (3 : Int32))), .val (.int (f0_10 p1 p2 p3 cz)), .val (.ref o34), .val (.int (f0_11 p1 p2 p3 cz))]) rfl ?_
      show Steps p.tables e below (T36.setTop (mkF m 216 #[.val (.int p1), .val (.int p2), .val (.int p3), .val (.int ((1 : Int32) + (f0_0 p1 p2 p3 cz))), .val (.int ((1 : Int32) + (f0_1 p1 p2 p3 cz))), .val (.int (fpc p1)), .val (.int (fpc (XT.ushr p1 (8 : Int32)))), .val (.int (fpc (XT.ushr p1 (16 : Int32)))), .val (.int (f0_2 p1 p2 p3 cz)), .val (.int (f0_3 p1 p2 p3 cz)), .val (.int (f0_4 p1 p2 p3 cz)), .val (.ref o13), .val (.ref r16), .val (.int ((XT.ushr p3 (7 : Int32)) &&& (3 : Int32))), .val (.int (f0_10 p1 p2 p3 cz)), .val (.ref o34), .val (.int (f0_11 p1 p2 p3 cz))] [])) _
      refine XS.iload X36.here hx rfl (hb hby at_216) rfl ?_
      show Steps p.tables e below (T36.setTop (mkF m 218 #[.val (.int p1), .val (.int p2), .val (.int p3), .val (.int ((1 : Int32) + (f0_0 p1 p2 p3 cz))), .val (.int ((1 : Int32) + (f0_1 p1 p2 p3 cz))), .val (.int (fpc p1)), .val (.int (fpc (XT.ushr p1 (8 : Int32)))), .val (.int (fpc (XT.ushr p1 (16 : Int32)))), .val (.int (f0_2 p1 p2 p3 cz)), .val (.int (f0_3 p1 p2 p3 cz)), .val (.int (f0_4 p1 p2 p3 cz)), .val (.ref o13), .val (.ref r16), .val (.int ((XT.ushr p3 (7 : Int32)) &&& (3 : Int32))), .val (.int (f0_10 p1 p2 p3 cz)), .val (.ref o34), .val (.int (f0_11 p1 p2 p3 cz))] [(.int (f0_11 p1 p2 p3 cz))])) _
      refine XS.iload X36.here hx rfl (hb hby at_218) rfl ?_
      exact k
    by_cases h37 : (f0_11 p1 p2 p3 cz) = (f0_10 p1 p2 p3 cz)
    · obtain ⟨cq38, kq38, q38a, q38b, q38c⟩ := isOf hZ e36 c35_0
      obtain ⟨_, _, ⟨T38, L38, k38, n38⟩, -, X38, ⟨Lc38, hQ38, l38, y38, z38⟩, st38⟩ := X36.virtualBack hx (y := (⟨"com/example/hitotabi/hitotabi/IdempotencyKey", "equals", "(Ljava/lang/Object;)Z"⟩ : MethodName)) (z := (⟨"com/example/hitotabi/hitotabi/IdempotencyKey", "equals", "(Ljava/lang/Object;)Z"⟩ : MethodName)) hown (mvT hZ (hw _ (List.mem_of_getElem? (i := 91) rfl))) (mvT hZ (hw _ (List.mem_of_getElem? (i := 92) rfl))) (notFace_of_selects (args := #[]) (mvT hZ (hw _ (List.mem_of_getElem? (i := 94) rfl)))) (mvT hZ (hw _ (List.mem_of_getElem? (i := 94) rfl))) (mvT hZ (hw _ (List.mem_of_getElem? (i := 93) rfl))) (by decide) (backOf (W := 0) (rmeqk l Z a0 hw [] o34 o13 r16 r14 (fmk_x0 ((1 : Int32) + (f0_1 p1 p2 p3 cz)) (f0_2 p1 p2 p3 cz) (f0_3 p1 p2 p3 cz) (f0_4 p1 p2 p3 cz) cz) (fmk_x0 ((1 : Int32) + (f0_0 p1 p2 p3 cz)) (fpc p1) (fpc (XT.ushr p1 (8 : Int32))) (fpc (XT.ushr p1 (16 : Int32))) cz) cz T35.heap n0 Z35 OL35 c35_0 u35_0 c35_1 u35_3 u35_5 u35_2 hCS hcz) hZ (hw _ (List.mem_of_getElem? (i := 95) rfl)) (hw _ (List.mem_of_getElem? (i := 6) rfl)) (by decide) (by decide)) q38a q38c (g := (mkF m 227 #[.val (.int p1), .val (.int p2), .val (.int p3), .val (.int ((1 : Int32) + (f0_0 p1 p2 p3 cz))), .val (.int ((1 : Int32) + (f0_1 p1 p2 p3 cz))), .val (.int (fpc p1)), .val (.int (fpc (XT.ushr p1 (8 : Int32)))), .val (.int (fpc (XT.ushr p1 (16 : Int32)))), .val (.int (f0_2 p1 p2 p3 cz)), .val (.int (f0_3 p1 p2 p3 cz)), .val (.int (f0_4 p1 p2 p3 cz)), .val (.ref o13), .val (.ref r16), .val (.int ((XT.ushr p3 (7 : Int32)) &&& (3 : Int32))), .val (.int (f0_10 p1 p2 p3 cz)), .val (.ref o34), .val (.int (f0_11 p1 p2 p3 cz))] [(.ref o13), (.ref o34)])) rfl (by rw [hml]; rfl) (Steps.refl _) (argsL := [(.ref o13)]) (rest := []) (lenOf pd_8 rfl) rfl (by show 2 * 0 + _ ≤ _; exact Nat.le_of_eq rfl) (hb hby at_227) (fun _ _ => ⟨rfl, e36, (by decide : 16 + 0 ≤ _), (by decide : 198 + 0 ≤ _)⟩)
      dsimp only [Pt.U, Pt.locs, Pt.cells, Pt.slots] at X38 l38 y38 z38 st38 hQ38
      subst l38 y38 z38
      obtain ⟨rfl, N38q, e38⟩ := hQ38
      have N38 := Fr.app N36 N38q
      refine own_step (B := T38.setTop (mkF m 232 #[.val (.int p1), .val (.int p2), .val (.int p3), .val (.int ((1 : Int32) + (f0_0 p1 p2 p3 cz))), .val (.int ((1 : Int32) + (f0_1 p1 p2 p3 cz))), .val (.int (fpc p1)), .val (.int (fpc (XT.ushr p1 (8 : Int32)))), .val (.int (fpc (XT.ushr p1 (16 : Int32)))), .val (.int (f0_2 p1 p2 p3 cz)), .val (.int (f0_3 p1 p2 p3 cz)), .val (.int (f0_4 p1 p2 p3 cz)), .val (.ref o13), .val (.ref r16), .val (.int ((XT.ushr p3 (7 : Int32)) &&& (3 : Int32))), .val (.int (f0_10 p1 p2 p3 cz)), .val (.ref o34), .val (.int (f0_11 p1 p2 p3 cz))] [(.int (f0_11 p1 p2 p3 cz)), (.int (f0_12 p1 p2 p3 cz))])) (fun t k => ?_) ?_
      · show Steps p.tables e below (T36.setTop (mkF m 220 #[.val (.int p1), .val (.int p2), .val (.int p3), .val (.int ((1 : Int32) + (f0_0 p1 p2 p3 cz))), .val (.int ((1 : Int32) + (f0_1 p1 p2 p3 cz))), .val (.int (fpc p1)), .val (.int (fpc (XT.ushr p1 (8 : Int32)))), .val (.int (fpc (XT.ushr p1 (16 : Int32)))), .val (.int (f0_2 p1 p2 p3 cz)), .val (.int (f0_3 p1 p2 p3 cz)), .val (.int (f0_4 p1 p2 p3 cz)), .val (.ref o13), .val (.ref r16), .val (.int ((XT.ushr p3 (7 : Int32)) &&& (3 : Int32))), .val (.int (f0_10 p1 p2 p3 cz)), .val (.ref o34), .val (.int (f0_11 p1 p2 p3 cz))] [(.int (f0_10 p1 p2 p3 cz)), (.int (f0_11 p1 p2 p3 cz))])) _
        refine XS.icmpNo X36.here hx rfl (hb hby at_220) rfl (teq h37).2 ?_
        show Steps p.tables e below (T36.setTop (mkF m 223 #[.val (.int p1), .val (.int p2), .val (.int p3), .val (.int ((1 : Int32) + (f0_0 p1 p2 p3 cz))), .val (.int ((1 : Int32) + (f0_1 p1 p2 p3 cz))), .val (.int (fpc p1)), .val (.int (fpc (XT.ushr p1 (8 : Int32)))), .val (.int (fpc (XT.ushr p1 (16 : Int32)))), .val (.int (f0_2 p1 p2 p3 cz)), .val (.int (f0_3 p1 p2 p3 cz)), .val (.int (f0_4 p1 p2 p3 cz)), .val (.ref o13), .val (.ref r16), .val (.int ((XT.ushr p3 (7 : Int32)) &&& (3 : Int32))), .val (.int (f0_10 p1 p2 p3 cz)), .val (.ref o34), .val (.int (f0_11 p1 p2 p3 cz))] [])) _
        refine XS.aload X36.here hx rfl (hb hby at_223) rfl rfl ?_
        show Steps p.tables e below (T36.setTop (mkF m 225 #[.val (.int p1), .val (.int p2), .val (.int p3), .val (.int ((1 : Int32) + (f0_0 p1 p2 p3 cz))), .val (.int ((1 : Int32) + (f0_1 p1 p2 p3 cz))), .val (.int (fpc p1)), .val (.int (fpc (XT.ushr p1 (8 : Int32)))), .val (.int (fpc (XT.ushr p1 (16 : Int32)))), .val (.int (f0_2 p1 p2 p3 cz)), .val (.int (f0_3 p1 p2 p3 cz)), .val (.int (f0_4 p1 p2 p3 cz)), .val (.ref o13), .val (.ref r16), .val (.int ((XT.ushr p3 (7 : Int32)) &&& (3 : Int32))), .val (.int (f0_10 p1 p2 p3 cz)), .val (.ref o34), .val (.int (f0_11 p1 p2 p3 cz))] [(.ref o34)])) _
        refine XS.aload X36.here hx rfl (hb hby at_225) rfl rfl ?_
        show Steps p.tables e below (T36.setTop (mkF m 227 #[.val (.int p1), .val (.int p2), .val (.int p3), .val (.int ((1 : Int32) + (f0_0 p1 p2 p3 cz))), .val (.int ((1 : Int32) + (f0_1 p1 p2 p3 cz))), .val (.int (fpc p1)), .val (.int (fpc (XT.ushr p1 (8 : Int32)))), .val (.int (fpc (XT.ushr p1 (16 : Int32)))), .val (.int (f0_2 p1 p2 p3 cz)), .val (.int (f0_3 p1 p2 p3 cz)), .val (.int (f0_4 p1 p2 p3 cz)), .val (.ref o13), .val (.ref r16), .val (.int ((XT.ushr p3 (7 : Int32)) &&& (3 : Int32))), .val (.int (f0_10 p1 p2 p3 cz)), .val (.ref o34), .val (.int (f0_11 p1 p2 p3 cz))] [(.ref o13), (.ref o34)])) _
        refine st38.trans ?_
        show Steps p.tables e below (T38.setTop (mkF m 230 #[.val (.int p1), .val (.int p2), .val (.int p3), .val (.int ((1 : Int32) + (f0_0 p1 p2 p3 cz))), .val (.int ((1 : Int32) + (f0_1 p1 p2 p3 cz))), .val (.int (fpc p1)), .val (.int (fpc (XT.ushr p1 (8 : Int32)))), .val (.int (fpc (XT.ushr p1 (16 : Int32)))), .val (.int (f0_2 p1 p2 p3 cz)), .val (.int (f0_3 p1 p2 p3 cz)), .val (.int (f0_4 p1 p2 p3 cz)), .val (.ref o13), .val (.ref r16), .val (.int ((XT.ushr p3 (7 : Int32)) &&& (3 : Int32))), .val (.int (f0_10 p1 p2 p3 cz)), .val (.ref o34), .val (.int (f0_11 p1 p2 p3 cz))] [(.int (f0_12 p1 p2 p3 cz))])) _
        refine XS.iload X38.here hx rfl (hb hby at_230) rfl ?_
        exact k
      by_cases h39 : (f0_12 p1 p2 p3 cz) = (f0_11 p1 p2 p3 cz)
      · obtain ⟨fs, hr, hrun, hended, hREW⟩ := X38.leaveW hS35 (by rw [e38]; exact hk35) (v := some (.int (1 : Int32))) (fun h => by rw [Bd.returns] at h; cases h)
        refine ⟨_, _, ?_, hrun, hended, _, _, rfl, ?_, hREW.1, hREW.2.1, hREW.2.2.1, hREW.2.2.2.mono (by decide) (by decide)⟩
        · show Steps p.tables e below (T38.setTop (mkF m 232 #[.val (.int p1), .val (.int p2), .val (.int p3), .val (.int ((1 : Int32) + (f0_0 p1 p2 p3 cz))), .val (.int ((1 : Int32) + (f0_1 p1 p2 p3 cz))), .val (.int (fpc p1)), .val (.int (fpc (XT.ushr p1 (8 : Int32)))), .val (.int (fpc (XT.ushr p1 (16 : Int32)))), .val (.int (f0_2 p1 p2 p3 cz)), .val (.int (f0_3 p1 p2 p3 cz)), .val (.int (f0_4 p1 p2 p3 cz)), .val (.ref o13), .val (.ref r16), .val (.int ((XT.ushr p3 (7 : Int32)) &&& (3 : Int32))), .val (.int (f0_10 p1 p2 p3 cz)), .val (.ref o34), .val (.int (f0_11 p1 p2 p3 cz))] [(.int (f0_11 p1 p2 p3 cz)), (.int (f0_12 p1 p2 p3 cz))])) _
          refine XS.icmpNo X38.here hx rfl (hb hby at_232) rfl (teq h39).2 ?_
          show Steps p.tables e below (T38.setTop (mkF m 235 #[.val (.int p1), .val (.int p2), .val (.int p3), .val (.int ((1 : Int32) + (f0_0 p1 p2 p3 cz))), .val (.int ((1 : Int32) + (f0_1 p1 p2 p3 cz))), .val (.int (fpc p1)), .val (.int (fpc (XT.ushr p1 (8 : Int32)))), .val (.int (fpc (XT.ushr p1 (16 : Int32)))), .val (.int (f0_2 p1 p2 p3 cz)), .val (.int (f0_3 p1 p2 p3 cz)), .val (.int (f0_4 p1 p2 p3 cz)), .val (.ref o13), .val (.ref r16), .val (.int ((XT.ushr p3 (7 : Int32)) &&& (3 : Int32))), .val (.int (f0_10 p1 p2 p3 cz)), .val (.ref o34), .val (.int (f0_11 p1 p2 p3 cz))] [])) _
          refine XS.iconst X38.here hx rfl (hb hby at_235) ?_
          show Steps p.tables e below (T38.setTop (mkF m 236 #[.val (.int p1), .val (.int p2), .val (.int p3), .val (.int ((1 : Int32) + (f0_0 p1 p2 p3 cz))), .val (.int ((1 : Int32) + (f0_1 p1 p2 p3 cz))), .val (.int (fpc p1)), .val (.int (fpc (XT.ushr p1 (8 : Int32)))), .val (.int (fpc (XT.ushr p1 (16 : Int32)))), .val (.int (f0_2 p1 p2 p3 cz)), .val (.int (f0_3 p1 p2 p3 cz)), .val (.int (f0_4 p1 p2 p3 cz)), .val (.ref o13), .val (.ref r16), .val (.int ((XT.ushr p3 (7 : Int32)) &&& (3 : Int32))), .val (.int (f0_10 p1 p2 p3 cz)), .val (.ref o34), .val (.int (f0_11 p1 p2 p3 cz))] [(.int (1 : Int32))])) _
          refine XS.goto X38.here hx rfl (pc0 := 236) (pc' := 240) rfl (hb hby at_236) (by decide) (by decide) ?_
          show Steps p.tables e below (T38.setTop (mkF m 240 #[.val (.int p1), .val (.int p2), .val (.int p3), .val (.int ((1 : Int32) + (f0_0 p1 p2 p3 cz))), .val (.int ((1 : Int32) + (f0_1 p1 p2 p3 cz))), .val (.int (fpc p1)), .val (.int (fpc (XT.ushr p1 (8 : Int32)))), .val (.int (fpc (XT.ushr p1 (16 : Int32)))), .val (.int (f0_2 p1 p2 p3 cz)), .val (.int (f0_3 p1 p2 p3 cz)), .val (.int (f0_4 p1 p2 p3 cz)), .val (.ref o13), .val (.ref r16), .val (.int ((XT.ushr p3 (7 : Int32)) &&& (3 : Int32))), .val (.int (f0_10 p1 p2 p3 cz)), .val (.ref o34), .val (.int (f0_11 p1 p2 p3 cz))] [(.int (1 : Int32))])) _
          exact retN X38 hx (t := .boolean) Bd.returns (by simp) (hb hby at_240) hr
        · show Q0 Z p1 p2 p3 cz sf h0 n0 _ T38.heap _
          rw [e38]
          exact ⟨congrArg (fun z => some (Value.int z)) ((show f0 p1 p2 p3 cz = (1 : Int32) from by simp only [f0, if_pos h33, if_pos h37, if_pos h39]).symm.trans (own_law p1 p2 p3 cz)), N38⟩
      · obtain ⟨fs, hr, hrun, hended, hREW⟩ := X38.leaveW hS35 (by rw [e38]; exact hk35) (v := some (.int (0 : Int32))) (fun h => by rw [Bd.returns] at h; cases h)
        refine ⟨_, _, ?_, hrun, hended, _, _, rfl, ?_, hREW.1, hREW.2.1, hREW.2.2.1, hREW.2.2.2.mono (by decide) (by decide)⟩
        · show Steps p.tables e below (T38.setTop (mkF m 232 #[.val (.int p1), .val (.int p2), .val (.int p3), .val (.int ((1 : Int32) + (f0_0 p1 p2 p3 cz))), .val (.int ((1 : Int32) + (f0_1 p1 p2 p3 cz))), .val (.int (fpc p1)), .val (.int (fpc (XT.ushr p1 (8 : Int32)))), .val (.int (fpc (XT.ushr p1 (16 : Int32)))), .val (.int (f0_2 p1 p2 p3 cz)), .val (.int (f0_3 p1 p2 p3 cz)), .val (.int (f0_4 p1 p2 p3 cz)), .val (.ref o13), .val (.ref r16), .val (.int ((XT.ushr p3 (7 : Int32)) &&& (3 : Int32))), .val (.int (f0_10 p1 p2 p3 cz)), .val (.ref o34), .val (.int (f0_11 p1 p2 p3 cz))] [(.int (f0_11 p1 p2 p3 cz)), (.int (f0_12 p1 p2 p3 cz))])) _
          refine XS.icmpYes X38.here hx rfl (pc0 := 232) (pc' := 239) rfl (hb hby at_232) rfl (feq h39).2 (by decide) (by decide) ?_
          show Steps p.tables e below (T38.setTop (mkF m 239 #[.val (.int p1), .val (.int p2), .val (.int p3), .val (.int ((1 : Int32) + (f0_0 p1 p2 p3 cz))), .val (.int ((1 : Int32) + (f0_1 p1 p2 p3 cz))), .val (.int (fpc p1)), .val (.int (fpc (XT.ushr p1 (8 : Int32)))), .val (.int (fpc (XT.ushr p1 (16 : Int32)))), .val (.int (f0_2 p1 p2 p3 cz)), .val (.int (f0_3 p1 p2 p3 cz)), .val (.int (f0_4 p1 p2 p3 cz)), .val (.ref o13), .val (.ref r16), .val (.int ((XT.ushr p3 (7 : Int32)) &&& (3 : Int32))), .val (.int (f0_10 p1 p2 p3 cz)), .val (.ref o34), .val (.int (f0_11 p1 p2 p3 cz))] [])) _
          refine XS.iconst X38.here hx rfl (hb hby at_239) ?_
          show Steps p.tables e below (T38.setTop (mkF m 240 #[.val (.int p1), .val (.int p2), .val (.int p3), .val (.int ((1 : Int32) + (f0_0 p1 p2 p3 cz))), .val (.int ((1 : Int32) + (f0_1 p1 p2 p3 cz))), .val (.int (fpc p1)), .val (.int (fpc (XT.ushr p1 (8 : Int32)))), .val (.int (fpc (XT.ushr p1 (16 : Int32)))), .val (.int (f0_2 p1 p2 p3 cz)), .val (.int (f0_3 p1 p2 p3 cz)), .val (.int (f0_4 p1 p2 p3 cz)), .val (.ref o13), .val (.ref r16), .val (.int ((XT.ushr p3 (7 : Int32)) &&& (3 : Int32))), .val (.int (f0_10 p1 p2 p3 cz)), .val (.ref o34), .val (.int (f0_11 p1 p2 p3 cz))] [(.int (0 : Int32))])) _
          exact retN X38 hx (t := .boolean) Bd.returns (by simp) (hb hby at_240) hr
        · show Q0 Z p1 p2 p3 cz sf h0 n0 _ T38.heap _
          rw [e38]
          exact ⟨congrArg (fun z => some (Value.int z)) ((show f0 p1 p2 p3 cz = (0 : Int32) from by simp only [f0, if_pos h33, if_pos h37, if_neg h39]).symm.trans (own_law p1 p2 p3 cz)), N38⟩
    · obtain ⟨fs, hr, hrun, hended, hREW⟩ := X36.leaveW hS35 (by rw [e36]; exact hk35) (v := some (.int (0 : Int32))) (fun h => by rw [Bd.returns] at h; cases h)
      refine ⟨_, _, ?_, hrun, hended, _, _, rfl, ?_, hREW.1, hREW.2.1, hREW.2.2.1, hREW.2.2.2.mono (by decide) (by decide)⟩
      · show Steps p.tables e below (T36.setTop (mkF m 220 #[.val (.int p1), .val (.int p2), .val (.int p3), .val (.int ((1 : Int32) + (f0_0 p1 p2 p3 cz))), .val (.int ((1 : Int32) + (f0_1 p1 p2 p3 cz))), .val (.int (fpc p1)), .val (.int (fpc (XT.ushr p1 (8 : Int32)))), .val (.int (fpc (XT.ushr p1 (16 : Int32)))), .val (.int (f0_2 p1 p2 p3 cz)), .val (.int (f0_3 p1 p2 p3 cz)), .val (.int (f0_4 p1 p2 p3 cz)), .val (.ref o13), .val (.ref r16), .val (.int ((XT.ushr p3 (7 : Int32)) &&& (3 : Int32))), .val (.int (f0_10 p1 p2 p3 cz)), .val (.ref o34), .val (.int (f0_11 p1 p2 p3 cz))] [(.int (f0_10 p1 p2 p3 cz)), (.int (f0_11 p1 p2 p3 cz))])) _
        refine XS.icmpYes X36.here hx rfl (pc0 := 220) (pc' := 239) rfl (hb hby at_220) rfl (feq h37).2 (by decide) (by decide) ?_
        show Steps p.tables e below (T36.setTop (mkF m 239 #[.val (.int p1), .val (.int p2), .val (.int p3), .val (.int ((1 : Int32) + (f0_0 p1 p2 p3 cz))), .val (.int ((1 : Int32) + (f0_1 p1 p2 p3 cz))), .val (.int (fpc p1)), .val (.int (fpc (XT.ushr p1 (8 : Int32)))), .val (.int (fpc (XT.ushr p1 (16 : Int32)))), .val (.int (f0_2 p1 p2 p3 cz)), .val (.int (f0_3 p1 p2 p3 cz)), .val (.int (f0_4 p1 p2 p3 cz)), .val (.ref o13), .val (.ref r16), .val (.int ((XT.ushr p3 (7 : Int32)) &&& (3 : Int32))), .val (.int (f0_10 p1 p2 p3 cz)), .val (.ref o34), .val (.int (f0_11 p1 p2 p3 cz))] [])) _
        refine XS.iconst X36.here hx rfl (hb hby at_239) ?_
        show Steps p.tables e below (T36.setTop (mkF m 240 #[.val (.int p1), .val (.int p2), .val (.int p3), .val (.int ((1 : Int32) + (f0_0 p1 p2 p3 cz))), .val (.int ((1 : Int32) + (f0_1 p1 p2 p3 cz))), .val (.int (fpc p1)), .val (.int (fpc (XT.ushr p1 (8 : Int32)))), .val (.int (fpc (XT.ushr p1 (16 : Int32)))), .val (.int (f0_2 p1 p2 p3 cz)), .val (.int (f0_3 p1 p2 p3 cz)), .val (.int (f0_4 p1 p2 p3 cz)), .val (.ref o13), .val (.ref r16), .val (.int ((XT.ushr p3 (7 : Int32)) &&& (3 : Int32))), .val (.int (f0_10 p1 p2 p3 cz)), .val (.ref o34), .val (.int (f0_11 p1 p2 p3 cz))] [(.int (0 : Int32))])) _
        exact retN X36 hx (t := .boolean) Bd.returns (by simp) (hb hby at_240) hr
      · show Q0 Z p1 p2 p3 cz sf h0 n0 _ T36.heap _
        rw [e36]
        exact ⟨congrArg (fun z => some (Value.int z)) ((show f0 p1 p2 p3 cz = (0 : Int32) from by simp only [f0, if_pos h33, if_neg h37]).symm.trans (own_law p1 p2 p3 cz)), N36⟩
  · refine own_step (B := T16.setTop (mkF m 244 #[.val (.int p1), .val (.int p2), .val (.int p3), .val (.int ((1 : Int32) + (f0_0 p1 p2 p3 cz))), .val (.int ((1 : Int32) + (f0_1 p1 p2 p3 cz))), .val (.int (fpc p1)), .val (.int (fpc (XT.ushr p1 (8 : Int32)))), .val (.int (fpc (XT.ushr p1 (16 : Int32)))), .val (.int (f0_2 p1 p2 p3 cz)), .val (.int (f0_3 p1 p2 p3 cz)), .val (.int (f0_4 p1 p2 p3 cz)), .val (.ref o13), .val (.ref r16), .val (.int ((XT.ushr p3 (7 : Int32)) &&& (3 : Int32))), .val (.int (f0_10 p1 p2 p3 cz)), .unset, .unset] [(.int (1 : Int32)), (.int ((XT.ushr p3 (7 : Int32)) &&& (3 : Int32)))])) (fun t k => ?_) ?_
    · show Steps p.tables e below (T16.setTop (mkF m 193 #[.val (.int p1), .val (.int p2), .val (.int p3), .val (.int ((1 : Int32) + (f0_0 p1 p2 p3 cz))), .val (.int ((1 : Int32) + (f0_1 p1 p2 p3 cz))), .val (.int (fpc p1)), .val (.int (fpc (XT.ushr p1 (8 : Int32)))), .val (.int (fpc (XT.ushr p1 (16 : Int32)))), .val (.int (f0_2 p1 p2 p3 cz)), .val (.int (f0_3 p1 p2 p3 cz)), .val (.int (f0_4 p1 p2 p3 cz)), .val (.ref o13), .val (.ref r16), .val (.int ((XT.ushr p3 (7 : Int32)) &&& (3 : Int32))), .val (.int (f0_10 p1 p2 p3 cz)), .unset, .unset] [(.int ((XT.ushr p3 (7 : Int32)) &&& (3 : Int32)))])) _
      refine XS.ifYes X16.here hx rfl (pc0 := 193) (pc' := 241) rfl (hb hby at_193) rfl ((if0 _ _).trans (feq h33).2) (by decide) (by decide) ?_
      show Steps p.tables e below (T16.setTop (mkF m 241 #[.val (.int p1), .val (.int p2), .val (.int p3), .val (.int ((1 : Int32) + (f0_0 p1 p2 p3 cz))), .val (.int ((1 : Int32) + (f0_1 p1 p2 p3 cz))), .val (.int (fpc p1)), .val (.int (fpc (XT.ushr p1 (8 : Int32)))), .val (.int (fpc (XT.ushr p1 (16 : Int32)))), .val (.int (f0_2 p1 p2 p3 cz)), .val (.int (f0_3 p1 p2 p3 cz)), .val (.int (f0_4 p1 p2 p3 cz)), .val (.ref o13), .val (.ref r16), .val (.int ((XT.ushr p3 (7 : Int32)) &&& (3 : Int32))), .val (.int (f0_10 p1 p2 p3 cz)), .unset, .unset] [])) _
      refine XS.iload X16.here hx rfl (hb hby at_241) rfl ?_
      show Steps p.tables e below (T16.setTop (mkF m 243 #[.val (.int p1), .val (.int p2), .val (.int p3), .val (.int ((1 : Int32) + (f0_0 p1 p2 p3 cz))), .val (.int ((1 : Int32) + (f0_1 p1 p2 p3 cz))), .val (.int (fpc p1)), .val (.int (fpc (XT.ushr p1 (8 : Int32)))), .val (.int (fpc (XT.ushr p1 (16 : Int32)))), .val (.int (f0_2 p1 p2 p3 cz)), .val (.int (f0_3 p1 p2 p3 cz)), .val (.int (f0_4 p1 p2 p3 cz)), .val (.ref o13), .val (.ref r16), .val (.int ((XT.ushr p3 (7 : Int32)) &&& (3 : Int32))), .val (.int (f0_10 p1 p2 p3 cz)), .unset, .unset] [(.int ((XT.ushr p3 (7 : Int32)) &&& (3 : Int32)))])) _
      refine XS.iconst X16.here hx rfl (hb hby at_243) ?_
      exact k
    by_cases h40 : ((XT.ushr p3 (7 : Int32)) &&& (3 : Int32)) = (1 : Int32)
    · obtain ⟨cq41, kq41, q41a, q41b, q41c⟩ := isOf hZ rfl u16_0
      obtain ⟨_, _, ⟨T41, L41, k41, n41⟩, -, X41, ⟨Lc41, hQ41, l41, y41, z41⟩, st41⟩ := X16.virtualBack hx (y := (⟨"com/example/hitotabi/hitotabi/IdempotencyKey", "equals", "(Ljava/lang/Object;)Z"⟩ : MethodName)) (z := (⟨"com/example/hitotabi/hitotabi/IdempotencyKey", "equals", "(Ljava/lang/Object;)Z"⟩ : MethodName)) hown (mvT hZ (hw _ (List.mem_of_getElem? (i := 91) rfl))) (mvT hZ (hw _ (List.mem_of_getElem? (i := 92) rfl))) (notFace_of_selects (args := #[]) (mvT hZ (hw _ (List.mem_of_getElem? (i := 94) rfl)))) (mvT hZ (hw _ (List.mem_of_getElem? (i := 94) rfl))) (mvT hZ (hw _ (List.mem_of_getElem? (i := 93) rfl))) (by decide) (backOf (W := 0) (rmeqn l Z a0 hw [] o13 T16.heap n0 Z16) hZ (hw _ (List.mem_of_getElem? (i := 95) rfl)) (hw _ (List.mem_of_getElem? (i := 6) rfl)) (by decide) (by decide)) q41a q41c (g := (mkF m 250 #[.val (.int p1), .val (.int p2), .val (.int p3), .val (.int ((1 : Int32) + (f0_0 p1 p2 p3 cz))), .val (.int ((1 : Int32) + (f0_1 p1 p2 p3 cz))), .val (.int (fpc p1)), .val (.int (fpc (XT.ushr p1 (8 : Int32)))), .val (.int (fpc (XT.ushr p1 (16 : Int32)))), .val (.int (f0_2 p1 p2 p3 cz)), .val (.int (f0_3 p1 p2 p3 cz)), .val (.int (f0_4 p1 p2 p3 cz)), .val (.ref o13), .val (.ref r16), .val (.int ((XT.ushr p3 (7 : Int32)) &&& (3 : Int32))), .val (.int (f0_10 p1 p2 p3 cz)), .unset, .unset] [.null, (.ref o13)])) rfl (by rw [hml]; rfl) (Steps.refl _) (argsL := [.null]) (rest := []) (lenOf pd_8 rfl) rfl (by show 2 * 0 + _ ≤ _; exact Nat.le_of_eq rfl) (hb hby at_250) (fun _ _ => ⟨rfl, rfl, (by decide : 11 + 0 ≤ _), (by decide : 109 + 0 ≤ _)⟩)
      dsimp only [Pt.U, Pt.locs, Pt.cells, Pt.slots] at X41 l41 y41 z41 st41 hQ41
      subst l41 y41 z41
      obtain ⟨rfl, N41q, e41⟩ := hQ41
      have N41 := Fr.app N16 N41q
      have st43 : ∀ t, Steps p.tables e below (T41.setTop (mkF m 261 #[.val (.int p1), .val (.int p2), .val (.int p3), .val (.int ((1 : Int32) + (f0_0 p1 p2 p3 cz))), .val (.int ((1 : Int32) + (f0_1 p1 p2 p3 cz))), .val (.int (fpc p1)), .val (.int (fpc (XT.ushr p1 (8 : Int32)))), .val (.int (fpc (XT.ushr p1 (16 : Int32)))), .val (.int (f0_2 p1 p2 p3 cz)), .val (.int (f0_3 p1 p2 p3 cz)), .val (.int (f0_4 p1 p2 p3 cz)), .val (.ref o13), .val (.ref r16), .val (.int ((XT.ushr p3 (7 : Int32)) &&& (3 : Int32))), .val (.int (f0_10 p1 p2 p3 cz)), .unset, .unset] [(.int (if (feqn) = (0 : Int32) then (1 : Int32) else (0 : Int32)))])) t → Steps p.tables e below (T41.setTop (mkF m 253 #[.val (.int p1), .val (.int p2), .val (.int p3), .val (.int ((1 : Int32) + (f0_0 p1 p2 p3 cz))), .val (.int ((1 : Int32) + (f0_1 p1 p2 p3 cz))), .val (.int (fpc p1)), .val (.int (fpc (XT.ushr p1 (8 : Int32)))), .val (.int (fpc (XT.ushr p1 (16 : Int32)))), .val (.int (f0_2 p1 p2 p3 cz)), .val (.int (f0_3 p1 p2 p3 cz)), .val (.int (f0_4 p1 p2 p3 cz)), .val (.ref o13), .val (.ref r16), .val (.int ((XT.ushr p3 (7 : Int32)) &&& (3 : Int32))), .val (.int (f0_10 p1 p2 p3 cz)), .unset, .unset] [(.int (feqn))])) t := by
        intro t k
        by_cases h42 : (feqn) = (0 : Int32)
        · rw [show (if (feqn) = (0 : Int32) then (1 : Int32) else (0 : Int32)) = (1 : Int32) from if_pos h42] at k
          show Steps p.tables e below (T41.setTop (mkF m 253 #[.val (.int p1), .val (.int p2), .val (.int p3), .val (.int ((1 : Int32) + (f0_0 p1 p2 p3 cz))), .val (.int ((1 : Int32) + (f0_1 p1 p2 p3 cz))), .val (.int (fpc p1)), .val (.int (fpc (XT.ushr p1 (8 : Int32)))), .val (.int (fpc (XT.ushr p1 (16 : Int32)))), .val (.int (f0_2 p1 p2 p3 cz)), .val (.int (f0_3 p1 p2 p3 cz)), .val (.int (f0_4 p1 p2 p3 cz)), .val (.ref o13), .val (.ref r16), .val (.int ((XT.ushr p3 (7 : Int32)) &&& (3 : Int32))), .val (.int (f0_10 p1 p2 p3 cz)), .unset, .unset] [(.int (feqn))])) _
          refine XS.ifNo X41.here hx rfl (hb hby at_253) rfl ((if0 _ _).trans (teq h42).2) ?_
          show Steps p.tables e below (T41.setTop (mkF m 256 #[.val (.int p1), .val (.int p2), .val (.int p3), .val (.int ((1 : Int32) + (f0_0 p1 p2 p3 cz))), .val (.int ((1 : Int32) + (f0_1 p1 p2 p3 cz))), .val (.int (fpc p1)), .val (.int (fpc (XT.ushr p1 (8 : Int32)))), .val (.int (fpc (XT.ushr p1 (16 : Int32)))), .val (.int (f0_2 p1 p2 p3 cz)), .val (.int (f0_3 p1 p2 p3 cz)), .val (.int (f0_4 p1 p2 p3 cz)), .val (.ref o13), .val (.ref r16), .val (.int ((XT.ushr p3 (7 : Int32)) &&& (3 : Int32))), .val (.int (f0_10 p1 p2 p3 cz)), .unset, .unset] [])) _
          refine XS.iconst X41.here hx rfl (hb hby at_256) ?_
          show Steps p.tables e below (T41.setTop (mkF m 257 #[.val (.int p1), .val (.int p2), .val (.int p3), .val (.int ((1 : Int32) + (f0_0 p1 p2 p3 cz))), .val (.int ((1 : Int32) + (f0_1 p1 p2 p3 cz))), .val (.int (fpc p1)), .val (.int (fpc (XT.ushr p1 (8 : Int32)))), .val (.int (fpc (XT.ushr p1 (16 : Int32)))), .val (.int (f0_2 p1 p2 p3 cz)), .val (.int (f0_3 p1 p2 p3 cz)), .val (.int (f0_4 p1 p2 p3 cz)), .val (.ref o13), .val (.ref r16), .val (.int ((XT.ushr p3 (7 : Int32)) &&& (3 : Int32))), .val (.int (f0_10 p1 p2 p3 cz)), .unset, .unset] [(.int (1 : Int32))])) _
          refine XS.goto X41.here hx rfl (pc0 := 257) (pc' := 261) rfl (hb hby at_257) (by decide) (by decide) ?_
          exact k
        · rw [show (if (feqn) = (0 : Int32) then (1 : Int32) else (0 : Int32)) = (0 : Int32) from if_neg h42] at k
          show Steps p.tables e below (T41.setTop (mkF m 253 #[.val (.int p1), .val (.int p2), .val (.int p3), .val (.int ((1 : Int32) + (f0_0 p1 p2 p3 cz))), .val (.int ((1 : Int32) + (f0_1 p1 p2 p3 cz))), .val (.int (fpc p1)), .val (.int (fpc (XT.ushr p1 (8 : Int32)))), .val (.int (fpc (XT.ushr p1 (16 : Int32)))), .val (.int (f0_2 p1 p2 p3 cz)), .val (.int (f0_3 p1 p2 p3 cz)), .val (.int (f0_4 p1 p2 p3 cz)), .val (.ref o13), .val (.ref r16), .val (.int ((XT.ushr p3 (7 : Int32)) &&& (3 : Int32))), .val (.int (f0_10 p1 p2 p3 cz)), .unset, .unset] [(.int (feqn))])) _
          refine XS.ifYes X41.here hx rfl (pc0 := 253) (pc' := 260) rfl (hb hby at_253) rfl ((if0 _ _).trans (feq h42).2) (by decide) (by decide) ?_
          show Steps p.tables e below (T41.setTop (mkF m 260 #[.val (.int p1), .val (.int p2), .val (.int p3), .val (.int ((1 : Int32) + (f0_0 p1 p2 p3 cz))), .val (.int ((1 : Int32) + (f0_1 p1 p2 p3 cz))), .val (.int (fpc p1)), .val (.int (fpc (XT.ushr p1 (8 : Int32)))), .val (.int (fpc (XT.ushr p1 (16 : Int32)))), .val (.int (f0_2 p1 p2 p3 cz)), .val (.int (f0_3 p1 p2 p3 cz)), .val (.int (f0_4 p1 p2 p3 cz)), .val (.ref o13), .val (.ref r16), .val (.int ((XT.ushr p3 (7 : Int32)) &&& (3 : Int32))), .val (.int (f0_10 p1 p2 p3 cz)), .unset, .unset] [])) _
          refine XS.iconst X41.here hx rfl (hb hby at_260) ?_
          exact k
      obtain ⟨fs, hr, hrun, hended, hREW⟩ := X41.leaveW hS15 (by rw [e41]; exact hg16) (v := some (.int ((if (feqn) = (0 : Int32) then (1 : Int32) else (0 : Int32)) &&& 1))) (fun h => by rw [Bd.returns] at h; cases h)
      refine ⟨_, _, ?_, hrun, hended, _, _, rfl, ?_, hREW.1, hREW.2.1, hREW.2.2.1, hREW.2.2.2.mono (by decide) (by decide)⟩
      · show Steps p.tables e below (T16.setTop (mkF m 244 #[.val (.int p1), .val (.int p2), .val (.int p3), .val (.int ((1 : Int32) + (f0_0 p1 p2 p3 cz))), .val (.int ((1 : Int32) + (f0_1 p1 p2 p3 cz))), .val (.int (fpc p1)), .val (.int (fpc (XT.ushr p1 (8 : Int32)))), .val (.int (fpc (XT.ushr p1 (16 : Int32)))), .val (.int (f0_2 p1 p2 p3 cz)), .val (.int (f0_3 p1 p2 p3 cz)), .val (.int (f0_4 p1 p2 p3 cz)), .val (.ref o13), .val (.ref r16), .val (.int ((XT.ushr p3 (7 : Int32)) &&& (3 : Int32))), .val (.int (f0_10 p1 p2 p3 cz)), .unset, .unset] [(.int (1 : Int32)), (.int ((XT.ushr p3 (7 : Int32)) &&& (3 : Int32)))])) _
        refine XS.icmpNo X16.here hx rfl (hb hby at_244) rfl (teq h40).2 ?_
        show Steps p.tables e below (T16.setTop (mkF m 247 #[.val (.int p1), .val (.int p2), .val (.int p3), .val (.int ((1 : Int32) + (f0_0 p1 p2 p3 cz))), .val (.int ((1 : Int32) + (f0_1 p1 p2 p3 cz))), .val (.int (fpc p1)), .val (.int (fpc (XT.ushr p1 (8 : Int32)))), .val (.int (fpc (XT.ushr p1 (16 : Int32)))), .val (.int (f0_2 p1 p2 p3 cz)), .val (.int (f0_3 p1 p2 p3 cz)), .val (.int (f0_4 p1 p2 p3 cz)), .val (.ref o13), .val (.ref r16), .val (.int ((XT.ushr p3 (7 : Int32)) &&& (3 : Int32))), .val (.int (f0_10 p1 p2 p3 cz)), .unset, .unset] [])) _
        refine XS.aload X16.here hx rfl (hb hby at_247) rfl rfl ?_
        show Steps p.tables e below (T16.setTop (mkF m 249 #[.val (.int p1), .val (.int p2), .val (.int p3), .val (.int ((1 : Int32) + (f0_0 p1 p2 p3 cz))), .val (.int ((1 : Int32) + (f0_1 p1 p2 p3 cz))), .val (.int (fpc p1)), .val (.int (fpc (XT.ushr p1 (8 : Int32)))), .val (.int (fpc (XT.ushr p1 (16 : Int32)))), .val (.int (f0_2 p1 p2 p3 cz)), .val (.int (f0_3 p1 p2 p3 cz)), .val (.int (f0_4 p1 p2 p3 cz)), .val (.ref o13), .val (.ref r16), .val (.int ((XT.ushr p3 (7 : Int32)) &&& (3 : Int32))), .val (.int (f0_10 p1 p2 p3 cz)), .unset, .unset] [(.ref o13)])) _
        refine XS.aconstNull X16.here hx rfl (hb hby at_249) ?_
        show Steps p.tables e below (T16.setTop (mkF m 250 #[.val (.int p1), .val (.int p2), .val (.int p3), .val (.int ((1 : Int32) + (f0_0 p1 p2 p3 cz))), .val (.int ((1 : Int32) + (f0_1 p1 p2 p3 cz))), .val (.int (fpc p1)), .val (.int (fpc (XT.ushr p1 (8 : Int32)))), .val (.int (fpc (XT.ushr p1 (16 : Int32)))), .val (.int (f0_2 p1 p2 p3 cz)), .val (.int (f0_3 p1 p2 p3 cz)), .val (.int (f0_4 p1 p2 p3 cz)), .val (.ref o13), .val (.ref r16), .val (.int ((XT.ushr p3 (7 : Int32)) &&& (3 : Int32))), .val (.int (f0_10 p1 p2 p3 cz)), .unset, .unset] [.null, (.ref o13)])) _
        refine st41.trans ?_
        show Steps p.tables e below (T41.setTop (mkF m 253 #[.val (.int p1), .val (.int p2), .val (.int p3), .val (.int ((1 : Int32) + (f0_0 p1 p2 p3 cz))), .val (.int ((1 : Int32) + (f0_1 p1 p2 p3 cz))), .val (.int (fpc p1)), .val (.int (fpc (XT.ushr p1 (8 : Int32)))), .val (.int (fpc (XT.ushr p1 (16 : Int32)))), .val (.int (f0_2 p1 p2 p3 cz)), .val (.int (f0_3 p1 p2 p3 cz)), .val (.int (f0_4 p1 p2 p3 cz)), .val (.ref o13), .val (.ref r16), .val (.int ((XT.ushr p3 (7 : Int32)) &&& (3 : Int32))), .val (.int (f0_10 p1 p2 p3 cz)), .unset, .unset] [(.int (feqn))])) _
        refine st43 _ ?_
        show Steps p.tables e below (T41.setTop (mkF m 261 #[.val (.int p1), .val (.int p2), .val (.int p3), .val (.int ((1 : Int32) + (f0_0 p1 p2 p3 cz))), .val (.int ((1 : Int32) + (f0_1 p1 p2 p3 cz))), .val (.int (fpc p1)), .val (.int (fpc (XT.ushr p1 (8 : Int32)))), .val (.int (fpc (XT.ushr p1 (16 : Int32)))), .val (.int (f0_2 p1 p2 p3 cz)), .val (.int (f0_3 p1 p2 p3 cz)), .val (.int (f0_4 p1 p2 p3 cz)), .val (.ref o13), .val (.ref r16), .val (.int ((XT.ushr p3 (7 : Int32)) &&& (3 : Int32))), .val (.int (f0_10 p1 p2 p3 cz)), .unset, .unset] [(.int (if (feqn) = (0 : Int32) then (1 : Int32) else (0 : Int32)))])) _
        exact retN X41 hx (t := .boolean) Bd.returns (by simp) (hb hby at_261) hr
      · show Q0 Z p1 p2 p3 cz sf h0 n0 _ T41.heap _
        rw [e41]
        exact ⟨congrArg (fun z => some (Value.int z)) ((show f0 p1 p2 p3 cz = ((if (feqn) = (0 : Int32) then (1 : Int32) else (0 : Int32)) &&& 1) from by simp only [f0, if_neg h33, if_pos h40]).symm.trans (own_law p1 p2 p3 cz)), N41⟩
    · refine own_step (B := T16.setTop (mkF m 265 #[.val (.int p1), .val (.int p2), .val (.int p3), .val (.int ((1 : Int32) + (f0_0 p1 p2 p3 cz))), .val (.int ((1 : Int32) + (f0_1 p1 p2 p3 cz))), .val (.int (fpc p1)), .val (.int (fpc (XT.ushr p1 (8 : Int32)))), .val (.int (fpc (XT.ushr p1 (16 : Int32)))), .val (.int (f0_2 p1 p2 p3 cz)), .val (.int (f0_3 p1 p2 p3 cz)), .val (.int (f0_4 p1 p2 p3 cz)), .val (.ref o13), .val (.ref r16), .val (.int ((XT.ushr p3 (7 : Int32)) &&& (3 : Int32))), .val (.int (f0_10 p1 p2 p3 cz)), .unset, .unset] [(.int (2 : Int32)), (.int ((XT.ushr p3 (7 : Int32)) &&& (3 : Int32)))])) (fun t k => ?_) ?_
      · show Steps p.tables e below (T16.setTop (mkF m 244 #[.val (.int p1), .val (.int p2), .val (.int p3), .val (.int ((1 : Int32) + (f0_0 p1 p2 p3 cz))), .val (.int ((1 : Int32) + (f0_1 p1 p2 p3 cz))), .val (.int (fpc p1)), .val (.int (fpc (XT.ushr p1 (8 : Int32)))), .val (.int (fpc (XT.ushr p1 (16 : Int32)))), .val (.int (f0_2 p1 p2 p3 cz)), .val (.int (f0_3 p1 p2 p3 cz)), .val (.int (f0_4 p1 p2 p3 cz)), .val (.ref o13), .val (.ref r16), .val (.int ((XT.ushr p3 (7 : Int32)) &&& (3 : Int32))), .val (.int (f0_10 p1 p2 p3 cz)), .unset, .unset] [(.int (1 : Int32)), (.int ((XT.ushr p3 (7 : Int32)) &&& (3 : Int32)))])) _
        refine XS.icmpYes X16.here hx rfl (pc0 := 244) (pc' := 262) rfl (hb hby at_244) rfl (feq h40).2 (by decide) (by decide) ?_
        show Steps p.tables e below (T16.setTop (mkF m 262 #[.val (.int p1), .val (.int p2), .val (.int p3), .val (.int ((1 : Int32) + (f0_0 p1 p2 p3 cz))), .val (.int ((1 : Int32) + (f0_1 p1 p2 p3 cz))), .val (.int (fpc p1)), .val (.int (fpc (XT.ushr p1 (8 : Int32)))), .val (.int (fpc (XT.ushr p1 (16 : Int32)))), .val (.int (f0_2 p1 p2 p3 cz)), .val (.int (f0_3 p1 p2 p3 cz)), .val (.int (f0_4 p1 p2 p3 cz)), .val (.ref o13), .val (.ref r16), .val (.int ((XT.ushr p3 (7 : Int32)) &&& (3 : Int32))), .val (.int (f0_10 p1 p2 p3 cz)), .unset, .unset] [])) _
        refine XS.iload X16.here hx rfl (hb hby at_262) rfl ?_
        show Steps p.tables e below (T16.setTop (mkF m 264 #[.val (.int p1), .val (.int p2), .val (.int p3), .val (.int ((1 : Int32) + (f0_0 p1 p2 p3 cz))), .val (.int ((1 : Int32) + (f0_1 p1 p2 p3 cz))), .val (.int (fpc p1)), .val (.int (fpc (XT.ushr p1 (8 : Int32)))), .val (.int (fpc (XT.ushr p1 (16 : Int32)))), .val (.int (f0_2 p1 p2 p3 cz)), .val (.int (f0_3 p1 p2 p3 cz)), .val (.int (f0_4 p1 p2 p3 cz)), .val (.ref o13), .val (.ref r16), .val (.int ((XT.ushr p3 (7 : Int32)) &&& (3 : Int32))), .val (.int (f0_10 p1 p2 p3 cz)), .unset, .unset] [(.int ((XT.ushr p3 (7 : Int32)) &&& (3 : Int32)))])) _
        refine XS.iconst X16.here hx rfl (hb hby at_264) ?_
        exact k
      by_cases h44 : ((XT.ushr p3 (7 : Int32)) &&& (3 : Int32)) = (2 : Int32)
      · obtain ⟨cq45, kq45, q45a, q45b, q45c⟩ := isOf hZ rfl u16_0
        obtain ⟨_, _, ⟨T45, L45, k45, n45⟩, -, X45, ⟨Lc45, hQ45, l45, y45, z45⟩, st45⟩ := X16.virtualBack hx (y := (⟨"com/example/hitotabi/hitotabi/IdempotencyKey", "equals", "(Ljava/lang/Object;)Z"⟩ : MethodName)) (z := (⟨"com/example/hitotabi/hitotabi/IdempotencyKey", "equals", "(Ljava/lang/Object;)Z"⟩ : MethodName)) hown (mvT hZ (hw _ (List.mem_of_getElem? (i := 91) rfl))) (mvT hZ (hw _ (List.mem_of_getElem? (i := 92) rfl))) (notFace_of_selects (args := #[]) (mvT hZ (hw _ (List.mem_of_getElem? (i := 94) rfl)))) (mvT hZ (hw _ (List.mem_of_getElem? (i := 94) rfl))) (mvT hZ (hw _ (List.mem_of_getElem? (i := 93) rfl))) (by decide) (backOf (W := 0) (rmeqs l Z a0 hw [] o13 r16 T16.heap n0 Z16 c16_0) hZ (hw _ (List.mem_of_getElem? (i := 95) rfl)) (hw _ (List.mem_of_getElem? (i := 6) rfl)) (by decide) (by decide)) q45a q45c (g := (mkF m 272 #[.val (.int p1), .val (.int p2), .val (.int p3), .val (.int ((1 : Int32) + (f0_0 p1 p2 p3 cz))), .val (.int ((1 : Int32) + (f0_1 p1 p2 p3 cz))), .val (.int (fpc p1)), .val (.int (fpc (XT.ushr p1 (8 : Int32)))), .val (.int (fpc (XT.ushr p1 (16 : Int32)))), .val (.int (f0_2 p1 p2 p3 cz)), .val (.int (f0_3 p1 p2 p3 cz)), .val (.int (f0_4 p1 p2 p3 cz)), .val (.ref o13), .val (.ref r16), .val (.int ((XT.ushr p3 (7 : Int32)) &&& (3 : Int32))), .val (.int (f0_10 p1 p2 p3 cz)), .unset, .unset] [(.ref r16), (.ref o13)])) rfl (by rw [hml]; rfl) (Steps.refl _) (argsL := [(.ref r16)]) (rest := []) (lenOf pd_8 rfl) rfl (by show 2 * 0 + _ ≤ _; exact Nat.le_of_eq rfl) (hb hby at_272) (fun _ _ => ⟨rfl, rfl, (by decide : 11 + 0 ≤ _), (by decide : 109 + 0 ≤ _)⟩)
        dsimp only [Pt.U, Pt.locs, Pt.cells, Pt.slots] at X45 l45 y45 z45 st45 hQ45
        subst l45 y45 z45
        obtain ⟨rfl, N45q, e45⟩ := hQ45
        have N45 := Fr.app N16 N45q
        have st47 : ∀ t, Steps p.tables e below (T45.setTop (mkF m 283 #[.val (.int p1), .val (.int p2), .val (.int p3), .val (.int ((1 : Int32) + (f0_0 p1 p2 p3 cz))), .val (.int ((1 : Int32) + (f0_1 p1 p2 p3 cz))), .val (.int (fpc p1)), .val (.int (fpc (XT.ushr p1 (8 : Int32)))), .val (.int (fpc (XT.ushr p1 (16 : Int32)))), .val (.int (f0_2 p1 p2 p3 cz)), .val (.int (f0_3 p1 p2 p3 cz)), .val (.int (f0_4 p1 p2 p3 cz)), .val (.ref o13), .val (.ref r16), .val (.int ((XT.ushr p3 (7 : Int32)) &&& (3 : Int32))), .val (.int (f0_10 p1 p2 p3 cz)), .unset, .unset] [(.int (if (feqs) = (0 : Int32) then (1 : Int32) else (0 : Int32)))])) t → Steps p.tables e below (T45.setTop (mkF m 275 #[.val (.int p1), .val (.int p2), .val (.int p3), .val (.int ((1 : Int32) + (f0_0 p1 p2 p3 cz))), .val (.int ((1 : Int32) + (f0_1 p1 p2 p3 cz))), .val (.int (fpc p1)), .val (.int (fpc (XT.ushr p1 (8 : Int32)))), .val (.int (fpc (XT.ushr p1 (16 : Int32)))), .val (.int (f0_2 p1 p2 p3 cz)), .val (.int (f0_3 p1 p2 p3 cz)), .val (.int (f0_4 p1 p2 p3 cz)), .val (.ref o13), .val (.ref r16), .val (.int ((XT.ushr p3 (7 : Int32)) &&& (3 : Int32))), .val (.int (f0_10 p1 p2 p3 cz)), .unset, .unset] [(.int (feqs))])) t := by
          intro t k
          by_cases h46 : (feqs) = (0 : Int32)
          · rw [show (if (feqs) = (0 : Int32) then (1 : Int32) else (0 : Int32)) = (1 : Int32) from if_pos h46] at k
            show Steps p.tables e below (T45.setTop (mkF m 275 #[.val (.int p1), .val (.int p2), .val (.int p3), .val (.int ((1 : Int32) + (f0_0 p1 p2 p3 cz))), .val (.int ((1 : Int32) + (f0_1 p1 p2 p3 cz))), .val (.int (fpc p1)), .val (.int (fpc (XT.ushr p1 (8 : Int32)))), .val (.int (fpc (XT.ushr p1 (16 : Int32)))), .val (.int (f0_2 p1 p2 p3 cz)), .val (.int (f0_3 p1 p2 p3 cz)), .val (.int (f0_4 p1 p2 p3 cz)), .val (.ref o13), .val (.ref r16), .val (.int ((XT.ushr p3 (7 : Int32)) &&& (3 : Int32))), .val (.int (f0_10 p1 p2 p3 cz)), .unset, .unset] [(.int (feqs))])) _
            refine XS.ifNo X45.here hx rfl (hb hby at_275) rfl ((if0 _ _).trans (teq h46).2) ?_
            show Steps p.tables e below (T45.setTop (mkF m 278 #[.val (.int p1), .val (.int p2), .val (.int p3), .val (.int ((1 : Int32) + (f0_0 p1 p2 p3 cz))), .val (.int ((1 : Int32) + (f0_1 p1 p2 p3 cz))), .val (.int (fpc p1)), .val (.int (fpc (XT.ushr p1 (8 : Int32)))), .val (.int (fpc (XT.ushr p1 (16 : Int32)))), .val (.int (f0_2 p1 p2 p3 cz)), .val (.int (f0_3 p1 p2 p3 cz)), .val (.int (f0_4 p1 p2 p3 cz)), .val (.ref o13), .val (.ref r16), .val (.int ((XT.ushr p3 (7 : Int32)) &&& (3 : Int32))), .val (.int (f0_10 p1 p2 p3 cz)), .unset, .unset] [])) _
            refine XS.iconst X45.here hx rfl (hb hby at_278) ?_
            show Steps p.tables e below (T45.setTop (mkF m 279 #[.val (.int p1), .val (.int p2), .val (.int p3), .val (.int ((1 : Int32) + (f0_0 p1 p2 p3 cz))), .val (.int ((1 : Int32) + (f0_1 p1 p2 p3 cz))), .val (.int (fpc p1)), .val (.int (fpc (XT.ushr p1 (8 : Int32)))), .val (.int (fpc (XT.ushr p1 (16 : Int32)))), .val (.int (f0_2 p1 p2 p3 cz)), .val (.int (f0_3 p1 p2 p3 cz)), .val (.int (f0_4 p1 p2 p3 cz)), .val (.ref o13), .val (.ref r16), .val (.int ((XT.ushr p3 (7 : Int32)) &&& (3 : Int32))), .val (.int (f0_10 p1 p2 p3 cz)), .unset, .unset] [(.int (1 : Int32))])) _
            refine XS.goto X45.here hx rfl (pc0 := 279) (pc' := 283) rfl (hb hby at_279) (by decide) (by decide) ?_
            exact k
          · rw [show (if (feqs) = (0 : Int32) then (1 : Int32) else (0 : Int32)) = (0 : Int32) from if_neg h46] at k
            show Steps p.tables e below (T45.setTop (mkF m 275 #[.val (.int p1), .val (.int p2), .val (.int p3), .val (.int ((1 : Int32) + (f0_0 p1 p2 p3 cz))), .val (.int ((1 : Int32) + (f0_1 p1 p2 p3 cz))), .val (.int (fpc p1)), .val (.int (fpc (XT.ushr p1 (8 : Int32)))), .val (.int (fpc (XT.ushr p1 (16 : Int32)))), .val (.int (f0_2 p1 p2 p3 cz)), .val (.int (f0_3 p1 p2 p3 cz)), .val (.int (f0_4 p1 p2 p3 cz)), .val (.ref o13), .val (.ref r16), .val (.int ((XT.ushr p3 (7 : Int32)) &&& (3 : Int32))), .val (.int (f0_10 p1 p2 p3 cz)), .unset, .unset] [(.int (feqs))])) _
            refine XS.ifYes X45.here hx rfl (pc0 := 275) (pc' := 282) rfl (hb hby at_275) rfl ((if0 _ _).trans (feq h46).2) (by decide) (by decide) ?_
            show Steps p.tables e below (T45.setTop (mkF m 282 #[.val (.int p1), .val (.int p2), .val (.int p3), .val (.int ((1 : Int32) + (f0_0 p1 p2 p3 cz))), .val (.int ((1 : Int32) + (f0_1 p1 p2 p3 cz))), .val (.int (fpc p1)), .val (.int (fpc (XT.ushr p1 (8 : Int32)))), .val (.int (fpc (XT.ushr p1 (16 : Int32)))), .val (.int (f0_2 p1 p2 p3 cz)), .val (.int (f0_3 p1 p2 p3 cz)), .val (.int (f0_4 p1 p2 p3 cz)), .val (.ref o13), .val (.ref r16), .val (.int ((XT.ushr p3 (7 : Int32)) &&& (3 : Int32))), .val (.int (f0_10 p1 p2 p3 cz)), .unset, .unset] [])) _
            refine XS.iconst X45.here hx rfl (hb hby at_282) ?_
            exact k
        obtain ⟨fs, hr, hrun, hended, hREW⟩ := X45.leaveW hS15 (by rw [e45]; exact hg16) (v := some (.int ((if (feqs) = (0 : Int32) then (1 : Int32) else (0 : Int32)) &&& 1))) (fun h => by rw [Bd.returns] at h; cases h)
        refine ⟨_, _, ?_, hrun, hended, _, _, rfl, ?_, hREW.1, hREW.2.1, hREW.2.2.1, hREW.2.2.2.mono (by decide) (by decide)⟩
        · show Steps p.tables e below (T16.setTop (mkF m 265 #[.val (.int p1), .val (.int p2), .val (.int p3), .val (.int ((1 : Int32) + (f0_0 p1 p2 p3 cz))), .val (.int ((1 : Int32) + (f0_1 p1 p2 p3 cz))), .val (.int (fpc p1)), .val (.int (fpc (XT.ushr p1 (8 : Int32)))), .val (.int (fpc (XT.ushr p1 (16 : Int32)))), .val (.int (f0_2 p1 p2 p3 cz)), .val (.int (f0_3 p1 p2 p3 cz)), .val (.int (f0_4 p1 p2 p3 cz)), .val (.ref o13), .val (.ref r16), .val (.int ((XT.ushr p3 (7 : Int32)) &&& (3 : Int32))), .val (.int (f0_10 p1 p2 p3 cz)), .unset, .unset] [(.int (2 : Int32)), (.int ((XT.ushr p3 (7 : Int32)) &&& (3 : Int32)))])) _
          refine XS.icmpNo X16.here hx rfl (hb hby at_265) rfl (teq h44).2 ?_
          show Steps p.tables e below (T16.setTop (mkF m 268 #[.val (.int p1), .val (.int p2), .val (.int p3), .val (.int ((1 : Int32) + (f0_0 p1 p2 p3 cz))), .val (.int ((1 : Int32) + (f0_1 p1 p2 p3 cz))), .val (.int (fpc p1)), .val (.int (fpc (XT.ushr p1 (8 : Int32)))), .val (.int (fpc (XT.ushr p1 (16 : Int32)))), .val (.int (f0_2 p1 p2 p3 cz)), .val (.int (f0_3 p1 p2 p3 cz)), .val (.int (f0_4 p1 p2 p3 cz)), .val (.ref o13), .val (.ref r16), .val (.int ((XT.ushr p3 (7 : Int32)) &&& (3 : Int32))), .val (.int (f0_10 p1 p2 p3 cz)), .unset, .unset] [])) _
          refine XS.aload X16.here hx rfl (hb hby at_268) rfl rfl ?_
          show Steps p.tables e below (T16.setTop (mkF m 270 #[.val (.int p1), .val (.int p2), .val (.int p3), .val (.int ((1 : Int32) + (f0_0 p1 p2 p3 cz))), .val (.int ((1 : Int32) + (f0_1 p1 p2 p3 cz))), .val (.int (fpc p1)), .val (.int (fpc (XT.ushr p1 (8 : Int32)))), .val (.int (fpc (XT.ushr p1 (16 : Int32)))), .val (.int (f0_2 p1 p2 p3 cz)), .val (.int (f0_3 p1 p2 p3 cz)), .val (.int (f0_4 p1 p2 p3 cz)), .val (.ref o13), .val (.ref r16), .val (.int ((XT.ushr p3 (7 : Int32)) &&& (3 : Int32))), .val (.int (f0_10 p1 p2 p3 cz)), .unset, .unset] [(.ref o13)])) _
          refine XS.aload X16.here hx rfl (hb hby at_270) rfl rfl ?_
          show Steps p.tables e below (T16.setTop (mkF m 272 #[.val (.int p1), .val (.int p2), .val (.int p3), .val (.int ((1 : Int32) + (f0_0 p1 p2 p3 cz))), .val (.int ((1 : Int32) + (f0_1 p1 p2 p3 cz))), .val (.int (fpc p1)), .val (.int (fpc (XT.ushr p1 (8 : Int32)))), .val (.int (fpc (XT.ushr p1 (16 : Int32)))), .val (.int (f0_2 p1 p2 p3 cz)), .val (.int (f0_3 p1 p2 p3 cz)), .val (.int (f0_4 p1 p2 p3 cz)), .val (.ref o13), .val (.ref r16), .val (.int ((XT.ushr p3 (7 : Int32)) &&& (3 : Int32))), .val (.int (f0_10 p1 p2 p3 cz)), .unset, .unset] [(.ref r16), (.ref o13)])) _
          refine st45.trans ?_
          show Steps p.tables e below (T45.setTop (mkF m 275 #[.val (.int p1), .val (.int p2), .val (.int p3), .val (.int ((1 : Int32) + (f0_0 p1 p2 p3 cz))), .val (.int ((1 : Int32) + (f0_1 p1 p2 p3 cz))), .val (.int (fpc p1)), .val (.int (fpc (XT.ushr p1 (8 : Int32)))), .val (.int (fpc (XT.ushr p1 (16 : Int32)))), .val (.int (f0_2 p1 p2 p3 cz)), .val (.int (f0_3 p1 p2 p3 cz)), .val (.int (f0_4 p1 p2 p3 cz)), .val (.ref o13), .val (.ref r16), .val (.int ((XT.ushr p3 (7 : Int32)) &&& (3 : Int32))), .val (.int (f0_10 p1 p2 p3 cz)), .unset, .unset] [(.int (feqs))])) _
          refine st47 _ ?_
          show Steps p.tables e below (T45.setTop (mkF m 283 #[.val (.int p1), .val (.int p2), .val (.int p3), .val (.int ((1 : Int32) + (f0_0 p1 p2 p3 cz))), .val (.int ((1 : Int32) + (f0_1 p1 p2 p3 cz))), .val (.int (fpc p1)), .val (.int (fpc (XT.ushr p1 (8 : Int32)))), .val (.int (fpc (XT.ushr p1 (16 : Int32)))), .val (.int (f0_2 p1 p2 p3 cz)), .val (.int (f0_3 p1 p2 p3 cz)), .val (.int (f0_4 p1 p2 p3 cz)), .val (.ref o13), .val (.ref r16), .val (.int ((XT.ushr p3 (7 : Int32)) &&& (3 : Int32))), .val (.int (f0_10 p1 p2 p3 cz)), .unset, .unset] [(.int (if (feqs) = (0 : Int32) then (1 : Int32) else (0 : Int32)))])) _
          exact retN X45 hx (t := .boolean) Bd.returns (by simp) (hb hby at_283) hr
        · show Q0 Z p1 p2 p3 cz sf h0 n0 _ T45.heap _
          rw [e45]
          exact ⟨congrArg (fun z => some (Value.int z)) ((show f0 p1 p2 p3 cz = ((if (feqs) = (0 : Int32) then (1 : Int32) else (0 : Int32)) &&& 1) from by simp only [f0, if_neg h33, if_neg h40, if_pos h44]).symm.trans (own_law p1 p2 p3 cz)), N45⟩
      · obtain ⟨cq48, kq48, q48a, q48b, q48c⟩ := isOf hZ rfl u16_0
        obtain ⟨_, _, ⟨T48, L48, k48, n48⟩, -, X48, ⟨Lc48, hQ48, l48, y48, z48⟩, st48⟩ := X16.virtualBack hx (y := (⟨"com/example/hitotabi/hitotabi/IdempotencyKey", "equals", "(Ljava/lang/Object;)Z"⟩ : MethodName)) (z := (⟨"com/example/hitotabi/hitotabi/IdempotencyKey", "equals", "(Ljava/lang/Object;)Z"⟩ : MethodName)) hown (mvT hZ (hw _ (List.mem_of_getElem? (i := 91) rfl))) (mvT hZ (hw _ (List.mem_of_getElem? (i := 92) rfl))) (notFace_of_selects (args := #[]) (mvT hZ (hw _ (List.mem_of_getElem? (i := 94) rfl)))) (mvT hZ (hw _ (List.mem_of_getElem? (i := 94) rfl))) (mvT hZ (hw _ (List.mem_of_getElem? (i := 93) rfl))) (by decide) (backOf (W := 0) (rmeqk l Z a0 hw [] o13 o13 r14 r14 (fmk_x0 ((1 : Int32) + (f0_0 p1 p2 p3 cz)) (fpc p1) (fpc (XT.ushr p1 (8 : Int32))) (fpc (XT.ushr p1 (16 : Int32))) cz) (fmk_x0 ((1 : Int32) + (f0_0 p1 p2 p3 cz)) (fpc p1) (fpc (XT.ushr p1 (8 : Int32))) (fpc (XT.ushr p1 (16 : Int32))) cz) cz T16.heap n0 Z16 OL16 u16_0 u16_0 u16_3 u16_3 u16_2 u16_2 hCS hcz) hZ (hw _ (List.mem_of_getElem? (i := 95) rfl)) (hw _ (List.mem_of_getElem? (i := 6) rfl)) (by decide) (by decide)) q48a q48c (g := (mkF m 288 #[.val (.int p1), .val (.int p2), .val (.int p3), .val (.int ((1 : Int32) + (f0_0 p1 p2 p3 cz))), .val (.int ((1 : Int32) + (f0_1 p1 p2 p3 cz))), .val (.int (fpc p1)), .val (.int (fpc (XT.ushr p1 (8 : Int32)))), .val (.int (fpc (XT.ushr p1 (16 : Int32)))), .val (.int (f0_2 p1 p2 p3 cz)), .val (.int (f0_3 p1 p2 p3 cz)), .val (.int (f0_4 p1 p2 p3 cz)), .val (.ref o13), .val (.ref r16), .val (.int ((XT.ushr p3 (7 : Int32)) &&& (3 : Int32))), .val (.int (f0_10 p1 p2 p3 cz)), .unset, .unset] [(.ref o13), (.ref o13)])) rfl (by rw [hml]; rfl) (Steps.refl _) (argsL := [(.ref o13)]) (rest := []) (lenOf pd_8 rfl) rfl (by show 2 * 0 + _ ≤ _; exact Nat.le_of_eq rfl) (hb hby at_288) (fun _ _ => ⟨rfl, rfl, (by decide : 11 + 0 ≤ _), (by decide : 109 + 0 ≤ _)⟩)
        dsimp only [Pt.U, Pt.locs, Pt.cells, Pt.slots] at X48 l48 y48 z48 st48 hQ48
        subst l48 y48 z48
        obtain ⟨rfl, N48q, e48⟩ := hQ48
        have N48 := Fr.app N16 N48q
        obtain ⟨fs, hr, hrun, hended, hREW⟩ := X48.leaveW hS15 (by rw [e48]; exact hg16) (v := some (.int ((f0_13 p1 p2 p3 cz) &&& 1))) (fun h => by rw [Bd.returns] at h; cases h)
        refine ⟨_, _, ?_, hrun, hended, _, _, rfl, ?_, hREW.1, hREW.2.1, hREW.2.2.1, hREW.2.2.2.mono (by decide) (by decide)⟩
        · show Steps p.tables e below (T16.setTop (mkF m 265 #[.val (.int p1), .val (.int p2), .val (.int p3), .val (.int ((1 : Int32) + (f0_0 p1 p2 p3 cz))), .val (.int ((1 : Int32) + (f0_1 p1 p2 p3 cz))), .val (.int (fpc p1)), .val (.int (fpc (XT.ushr p1 (8 : Int32)))), .val (.int (fpc (XT.ushr p1 (16 : Int32)))), .val (.int (f0_2 p1 p2 p3 cz)), .val (.int (f0_3 p1 p2 p3 cz)), .val (.int (f0_4 p1 p2 p3 cz)), .val (.ref o13), .val (.ref r16), .val (.int ((XT.ushr p3 (7 : Int32)) &&& (3 : Int32))), .val (.int (f0_10 p1 p2 p3 cz)), .unset, .unset] [(.int (2 : Int32)), (.int ((XT.ushr p3 (7 : Int32)) &&& (3 : Int32)))])) _
          refine XS.icmpYes X16.here hx rfl (pc0 := 265) (pc' := 284) rfl (hb hby at_265) rfl (feq h44).2 (by decide) (by decide) ?_
          show Steps p.tables e below (T16.setTop (mkF m 284 #[.val (.int p1), .val (.int p2), .val (.int p3), .val (.int ((1 : Int32) + (f0_0 p1 p2 p3 cz))), .val (.int ((1 : Int32) + (f0_1 p1 p2 p3 cz))), .val (.int (fpc p1)), .val (.int (fpc (XT.ushr p1 (8 : Int32)))), .val (.int (fpc (XT.ushr p1 (16 : Int32)))), .val (.int (f0_2 p1 p2 p3 cz)), .val (.int (f0_3 p1 p2 p3 cz)), .val (.int (f0_4 p1 p2 p3 cz)), .val (.ref o13), .val (.ref r16), .val (.int ((XT.ushr p3 (7 : Int32)) &&& (3 : Int32))), .val (.int (f0_10 p1 p2 p3 cz)), .unset, .unset] [])) _
          refine XS.aload X16.here hx rfl (hb hby at_284) rfl rfl ?_
          show Steps p.tables e below (T16.setTop (mkF m 286 #[.val (.int p1), .val (.int p2), .val (.int p3), .val (.int ((1 : Int32) + (f0_0 p1 p2 p3 cz))), .val (.int ((1 : Int32) + (f0_1 p1 p2 p3 cz))), .val (.int (fpc p1)), .val (.int (fpc (XT.ushr p1 (8 : Int32)))), .val (.int (fpc (XT.ushr p1 (16 : Int32)))), .val (.int (f0_2 p1 p2 p3 cz)), .val (.int (f0_3 p1 p2 p3 cz)), .val (.int (f0_4 p1 p2 p3 cz)), .val (.ref o13), .val (.ref r16), .val (.int ((XT.ushr p3 (7 : Int32)) &&& (3 : Int32))), .val (.int (f0_10 p1 p2 p3 cz)), .unset, .unset] [(.ref o13)])) _
          refine XS.aload X16.here hx rfl (hb hby at_286) rfl rfl ?_
          show Steps p.tables e below (T16.setTop (mkF m 288 #[.val (.int p1), .val (.int p2), .val (.int p3), .val (.int ((1 : Int32) + (f0_0 p1 p2 p3 cz))), .val (.int ((1 : Int32) + (f0_1 p1 p2 p3 cz))), .val (.int (fpc p1)), .val (.int (fpc (XT.ushr p1 (8 : Int32)))), .val (.int (fpc (XT.ushr p1 (16 : Int32)))), .val (.int (f0_2 p1 p2 p3 cz)), .val (.int (f0_3 p1 p2 p3 cz)), .val (.int (f0_4 p1 p2 p3 cz)), .val (.ref o13), .val (.ref r16), .val (.int ((XT.ushr p3 (7 : Int32)) &&& (3 : Int32))), .val (.int (f0_10 p1 p2 p3 cz)), .unset, .unset] [(.ref o13), (.ref o13)])) _
          refine st48.trans ?_
          show Steps p.tables e below (T48.setTop (mkF m 291 #[.val (.int p1), .val (.int p2), .val (.int p3), .val (.int ((1 : Int32) + (f0_0 p1 p2 p3 cz))), .val (.int ((1 : Int32) + (f0_1 p1 p2 p3 cz))), .val (.int (fpc p1)), .val (.int (fpc (XT.ushr p1 (8 : Int32)))), .val (.int (fpc (XT.ushr p1 (16 : Int32)))), .val (.int (f0_2 p1 p2 p3 cz)), .val (.int (f0_3 p1 p2 p3 cz)), .val (.int (f0_4 p1 p2 p3 cz)), .val (.ref o13), .val (.ref r16), .val (.int ((XT.ushr p3 (7 : Int32)) &&& (3 : Int32))), .val (.int (f0_10 p1 p2 p3 cz)), .unset, .unset] [(.int (f0_13 p1 p2 p3 cz))])) _
          exact retN X48 hx (t := .boolean) Bd.returns (by simp) (hb hby at_291) hr
        · show Q0 Z p1 p2 p3 cz sf h0 n0 _ T48.heap _
          rw [e48]
          exact ⟨congrArg (fun z => some (Value.int z)) ((show f0 p1 p2 p3 cz = ((f0_13 p1 p2 p3 cz) &&& 1) from by simp only [f0, if_neg h33, if_neg h40, if_neg h44]).symm.trans (own_law p1 p2 p3 cz)), N48⟩
set_option maxRecDepth 65536 in
set_option maxHeartbeats 40000000 in
theorem comes_1 {Post : Tables → Env → Array Value → State → Outcome → State → Prop} (hpost : ∀ tb e args s v u, (limb_1_1.after args s (.returned v) u = true ∧ limb_1_2.after args s (.returned v) u = true ∧ True) → ReturnedEndW s (.returned v) u (Jvm.fieldLocs frame_1_writes args s ++ Jvm.arrayLocs frame_1_arrays args s ++ Jvm.staticLocs frame_1_statics s) 32 2176 → Post tb e args s (.returned v) u) :
    ArmFor flags0 classFile x code maxLocals ret World_1 tables_1 room_1 Calls_1 rest_1 Pre_1 Post := by
  intro l hfl _ _ p e ha hc hk s m args below hf hA hF happ hP
  obtain ⟨hcalls, hrest, hpre⟩ := hP
  obtain ⟨-, -, -, hnamed, -, -, -, hat⟩ := (Spec.applies_iff hf).mp happ
  obtain ⟨hg, hn⟩ := and_e (Cond.before_iff.mp (show (Jvm.Cond.and given_1 narrow_1).before args s = true from hpre))
  obtain ⟨hcnt, hg0⟩ := and_e hg
  obtain ⟨hi0, hg1⟩ := and_e hg0
  obtain ⟨hi1, hg2⟩ := and_e hg1
  obtain ⟨w0, w1, w2, rfl⟩ : ∃ w0 w1 w2 : Value, args = #[w0, w1, w2] := by
    have hs : args.size = 3 := by simpa [Cond.value, given_1] using hcnt
    obtain ⟨L⟩ := args
    match L, hs with
    | [w0, w1, w2], _ => exact ⟨w0, w1, w2, rfl⟩
  have hw := fun d (hd : d ∈ tables_1) => atoms_spec (ws := Jvm.Cond.code x code maxLocals ret :: tables_1) hat d (List.mem_cons_of_mem _ hd)
  have hfit : Fit s := fun {y c} hc i hi => by
    obtain ⟨ha, rfl⟩ := Array.getElem?_eq_some_iff.mp hc
    have q := List.all_eq_true.mp ((Array.all_eq_true_iff_forall_mem.mp hF) _ (Array.getElem_mem ha)) i (List.mem_range.mpr hi)
    simpa [Array.getElem?_eq_getElem hi] using q
  obtain ⟨i0, ei0⟩ := is_v hi0
  obtain rfl : w0 = (.int i0) := Option.some.inj ei0
  obtain ⟨i1, ei1⟩ := is_v hi1
  obtain rfl : w1 = (.int i1) := Option.some.inj ei1
  obtain ⟨i2, ei2⟩ := is_v hg2
  obtain rfl : w2 = (.int i2) := Option.some.inj ei2
  obtain ⟨hsets, -⟩ := atoms_of _ (rest_1_c_eq ▸ (show rest_1_c.before _ s = true from hrest))
  obtain ⟨cz, ecz⟩ := is_v (Cond.before_iff.mp (hsets _ (List.mem_of_getElem? (i := 1) rfl)))
  have hCS : Sta s s.heap "java/lang/String" "COMPACT_STRINGS" "Z" (.int cz) := Sta.start ecz (Or.inl (hsets _ (List.mem_of_getElem? (i := 0) rfl)))
  have hcz : ¬ (cz = (0 : Int32)) := gotF (Cond.eq_ints ecz (Term.int_eval (0))) (not_v (Cond.before_iff.mp (hsets _ (List.mem_of_getElem? (i := 2) rfl))))
  obtain ⟨sf, esf, rsf⟩ := isR_v (Cond.before_iff.mp (hsets _ (List.mem_of_getElem? (i := 8) rfl)))
  have hSF : Sta s s.heap "jdk/internal/util/Preconditions" "SIOOBE_FORMATTER" "Ljava/util/function/BiFunction;" sf := Sta.start esf (Or.inl (hsets _ (List.mem_of_getElem? (i := 7) rfl)))
  have hsf := ref_cases rsf
  obtain ⟨n, o, h1, h2, h3, _, L, rfl, ⟨rfl, N⟩, hq⟩ := rm0 l s _ hw tables_1 i0 i1 i2 cz sf s.heap s.heap.size (Nat.le_refl _) (Old.start s) hCS hcz hSF hsf p e ha hc hk s m _ below hf ((Spec.applies_iff_loose hf).mp happ).1 ⟨rfl, State.Warmed39.refl s, rfl⟩ trivial
  refine ⟨n, _, h1, h2, h3, hpost _ _ _ _ _ _ ⟨Cond.after_iff.mpr rfl, Cond.after_iff.mpr (eq_i res_at (Term.int_eval (1)) rfl), trivial⟩ ⟨hq.1, hq.2.1, hq.2.2.1, (hq.2.2.2.sift fun y hy => Or.inr (N y hy)).mono (by decide) (by decide)⟩⟩
theorem main_1_1 : Claimed_1_1 := comes_1 fun _ _ _ _ _ _ h hF => ⟨h.1, hF⟩
theorem main_1_2 : Claimed_1_2 := comes_1 fun _ _ _ _ _ _ h hF => ⟨h.2.1, hF⟩
end Jvm.Pilot.@@N@@
namespace Jvm.Pilot.@@N@@
open Jvm Jvm.ClassFile Sem Op Lib Jvm.Free Jvm.Stand Jvm.Pilot.@@N@@.Jvm.D
/-! MADE BY PROGRAM (witnessworld.py) out of the Statement's table words and the real class files: 22 classes; the members and pool entries that the words name. The judged class is class 1, her method 3. -/
namespace start1
open Jvm.ClassFile
def u (s : String) : CpInfo := .utf8 (stringToUtf16 s)
/-- a pool by its gaps: so many unusable entries, then the entry; so many at the end -/
def gap : Nat → List CpInfo → List CpInfo
  | 0, r => r
  | n + 1, r => .unusable :: gap n r
def poolList (es : List (Nat × CpInfo)) (last : Nat) : List CpInfo := es.foldr (fun e r => gap e.1 (e.2 :: r)) (gap last [])
def pool (es : List (Nat × CpInfo)) (last : Nat) : Array CpInfo := ⟨poolList es last⟩
def fileOf (pool : Array CpInfo) (this : Nat) (attrs : Array Attribute := #[]) (ms : Array MethodInfo := #[]) (fl : Nat := 33) (sup : Nat := 0) (ifs : Array Nat := #[]) (fds : Array FieldInfo := #[]) : ClassFile where
  minorVersion := 0
  majorVersion := 65
  constantPool := pool
  accessFlags := fl
  thisClass := this
  superClass := sup
  interfaces := ifs
  fields := fds
  methods := ms
  attributes := attrs
def plain (name : String) (sup : Option ClassId) : Class where
  name := name
  kind := .ordinary
  loader := none
  accessFlags := 33
  super := sup
  interfaces := #[]
  cf := none
  fields := #[]
  methods := #[]
  instanceTypes := #[]
  staticTypes := #[]
  resolved := #[]
  callSites := []
  init := .initialized
  statics := none
  mirror := none

def pool0 : Array CpInfo := pool [(5, u "<init>"), (0, u "()V"), (1, .class_ 10), (1, u "java/lang/Object")] 113

def k0c0 : Code := { maxStack := 0, maxLocals := 1, code := object_method_1_code, exceptionTable := #[], attributes := #[] }
def k0m0 : Method := { name := "<init>", desc := "()V", sig := { parameters := [], returnType := none }, accessFlags := 1, code := some k0c0 }
/-- java/lang/Object -/
def k0 : Class := { plain "java/lang/Object" none with
  accessFlags := 33
  interfaces := #[]
  cf := some (fileOf pool0 8 #[] #[{ accessFlags := 1, nameIndex := 5, descriptorIndex := 6, attributes := #[] }] 33 0 #[] #[])
  fields := #[]
  methods := #[k0m0]
  instanceTypes := #[]
  staticTypes := #[]
  resolved := Array.replicate 124 none
  statics := none }

def pool1 : Array CpInfo := pool [(2, .class_ 4), (1, u "java/lang/Object"), (0, u "<init>"), (0, u "()V"), (0, .class_ 8), (0, u "java/lang/String"), (0, .methodref 7 10), (0, .nameAndType 5 11), (0, u "([C)V"), (0, .methodref 13 14), (0, .class_ 15), (0, .nameAndType 16 17), (0, u "com/example/hitotabi/hitotabi/IdempotencyKeyEqualsPinLaw"), (0, u "pc"), (0, u "(I)C"), (0, .class_ 19), (0, u "com/example/hitotabi/hitotabi/IdempotencyKey"), (0, .methodref 13 21), (0, .nameAndType 22 23), (0, u "mk"), (0, u "(ICCC)Ljava/lang/String;"), (0, .methodref 18 25), (0, .nameAndType 5 26), (0, u "(Ljava/lang/String;)V"), (0, .methodref 18 28), (0, .nameAndType 29 30), (0, u "equals"), (0, u "(Ljava/lang/Object;)Z"), (3, u "law"), (0, u "(III)Z")] 2

def k1m0 : Method := { name := "<init>", desc := "()V", sig := { parameters := [], returnType := none }, accessFlags := 1, code := none }
def k1c1 : Code := { maxStack := 3, maxLocals := 1, code := method_2_code, exceptionTable := #[], attributes := #[] }
def k1m1 : Method := { name := "pc", desc := "(I)C", sig := { parameters := [.int], returnType := some .char }, accessFlags := 10, code := some k1c1 }
def k1c2 : Code := { maxStack := 6, maxLocals := 4, code := method_3_code, exceptionTable := #[], attributes := #[] }
def k1m2 : Method := { name := "mk", desc := "(ICCC)Ljava/lang/String;", sig := { parameters := [.int, .char, .char, .char], returnType := some (.object "java/lang/String") }, accessFlags := 10, code := some k1c2 }
def k1c3 : Code := { maxStack := 6, maxLocals := 17, code := code, exceptionTable := #[], attributes := #[] }
def k1m3 : Method := { name := "law", desc := "(III)Z", sig := { parameters := [.int, .int, .int], returnType := some .boolean }, accessFlags := 9, code := some k1c3 }
/-- com/example/hitotabi/hitotabi/IdempotencyKeyEqualsPinLaw -/
def k1 : Class := { plain "com/example/hitotabi/hitotabi/IdempotencyKeyEqualsPinLaw" (some 0) with
  accessFlags := 49
  interfaces := #[]
  cf := some (fileOf pool1 13 #[] #[{ accessFlags := 1, nameIndex := 5, descriptorIndex := 6, attributes := #[] }, { accessFlags := 10, nameIndex := 16, descriptorIndex := 17, attributes := #[] }, { accessFlags := 10, nameIndex := 22, descriptorIndex := 23, attributes := #[] }, { accessFlags := 9, nameIndex := 34, descriptorIndex := 35, attributes := #[] }] 49 2 #[] #[])
  fields := #[]
  methods := #[k1m0, k1m1, k1m2, k1m3]
  instanceTypes := #[]
  staticTypes := #[]
  resolved := Array.replicate 38 none
  statics := none }

def pool2 : Array CpInfo := pool [(1, .methodref 2 3), (0, .class_ 4), (0, .nameAndType 5 6), (0, u "java/lang/Object"), (0, u "<init>"), (0, u "()V"), (0, .string 8), (0, u "value"), (0, .methodref 10 11), (0, .class_ 12), (0, .nameAndType 13 14), (0, u "java/util/Objects"), (0, u "requireNonNull"), (0, u "(Ljava/lang/Object;Ljava/lang/String;)Ljava/lang/Object;"), (0, .class_ 16), (0, u "com/example/hitotabi/hitotabi/IdempotencyKey"), (0, .string 18), (0, u "Idempotency key"), (0, .methodref 20 21), (0, .class_ 22), (0, .nameAndType 23 24), (0, u "com/example/hitotabi/hitotabi/PrintableAscii"), (0, u "require"), (0, u "(Ljava/lang/String;ILjava/lang/String;)Ljava/lang/String;"), (0, .fieldref 15 26), (0, .nameAndType 8 27), (0, u "Ljava/lang/String;"), (0, .methodref 29 30), (0, .class_ 31), (0, .nameAndType 32 33), (0, u "java/lang/String"), (0, u "equals"), (0, u "(Ljava/lang/Object;)Z"), (4, u "MAX_LENGTH"), (0, u "I"), (2, u "(Ljava/lang/String;)V")] 7

def k2c0 : Code := { maxStack := 4, maxLocals := 2, code := prog_11_method_1_code, exceptionTable := #[], attributes := #[] }
def k2m0 : Method := { name := "<init>", desc := "(Ljava/lang/String;)V", sig := { parameters := [(.object "java/lang/String")], returnType := none }, accessFlags := 1, code := some k2c0 }
def k2c1 : Code := { maxStack := 2, maxLocals := 2, code := prog_11_method_3_code, exceptionTable := #[], attributes := #[] }
def k2m1 : Method := { name := "equals", desc := "(Ljava/lang/Object;)Z", sig := { parameters := [(.object "java/lang/Object")], returnType := some .boolean }, accessFlags := 1, code := some k2c1 }
/-- com/example/hitotabi/hitotabi/IdempotencyKey -/
def k2 : Class := { plain "com/example/hitotabi/hitotabi/IdempotencyKey" (some 0) with
  accessFlags := 49
  interfaces := #[]
  cf := some (fileOf pool2 15 #[] #[{ accessFlags := 1, nameIndex := 5, descriptorIndex := 42, attributes := #[] }, { accessFlags := 1, nameIndex := 32, descriptorIndex := 33, attributes := #[] }] 49 2 #[] #[{ accessFlags := 25, nameIndex := 38, descriptorIndex := 39, attributes := #[] }, { accessFlags := 18, nameIndex := 8, descriptorIndex := 27, attributes := #[] }])
  fields := #[{ name := "MAX_LENGTH", type := .int, accessFlags := 25, slot := 0, constantValue := 0 }, { name := "value", type := (.object "java/lang/String"), accessFlags := 18, slot := 0, constantValue := 0 }]
  methods := #[k2m0, k2m1]
  instanceTypes := #[(.object "java/lang/String")]
  staticTypes := #[.int]
  resolved := Array.replicate 50 none
  statics := none }

def pool3 : Array CpInfo := pool [(1, .class_ 2), (0, u "java/io/Serializable"), (0, .class_ 4), (0, u "java/lang/Object")] 2

/-- java/io/Serializable -/
def k3 : Class := { plain "java/io/Serializable" (some 0) with
  accessFlags := 1537
  interfaces := #[]
  cf := some (fileOf pool3 1 #[] #[] 1537 3 #[] #[])
  fields := #[]
  methods := #[]
  instanceTypes := #[]
  staticTypes := #[]
  resolved := Array.replicate 7 none
  statics := none }

def pool4 : Array CpInfo := pool [(1, .class_ 2), (0, u "java/lang/Comparable"), (0, .class_ 4), (0, u "java/lang/Object")] 7

/-- java/lang/Comparable -/
def k4 : Class := { plain "java/lang/Comparable" (some 0) with
  accessFlags := 1537
  interfaces := #[]
  cf := some (fileOf pool4 1 #[] #[] 1537 3 #[] #[])
  fields := #[]
  methods := #[]
  instanceTypes := #[]
  staticTypes := #[]
  resolved := Array.replicate 12 none
  statics := none }

def pool5 : Array CpInfo := pool [(2, .class_ 4), (1, u "java/lang/CharSequence"), (42, .class_ 48), (0, u "java/lang/CharSequence$1CodePointIterator"), (10, .class_ 60), (0, u "java/lang/CharSequence$1CharIterator"), (5, .class_ 67), (0, u "java/lang/Object")] 63

/-- java/lang/CharSequence -/
def k5 : Class := { plain "java/lang/CharSequence" (some 0) with
  accessFlags := 1537
  interfaces := #[]
  cf := some (fileOf pool5 2 #[.nestMembers #[47, 59]] #[] 1537 66 #[] #[])
  fields := #[]
  methods := #[]
  instanceTypes := #[]
  staticTypes := #[]
  resolved := Array.replicate 131 none
  statics := none }

def pool6 : Array CpInfo := pool [(1, .class_ 2), (0, u "java/lang/constant/Constable"), (0, .class_ 4), (0, u "java/lang/Object")] 6

/-- java/lang/constant/Constable -/
def k6 : Class := { plain "java/lang/constant/Constable" (some 0) with
  accessFlags := 1537
  interfaces := #[]
  cf := some (fileOf pool6 1 #[] #[] 1537 3 #[] #[])
  fields := #[]
  methods := #[]
  instanceTypes := #[]
  staticTypes := #[]
  resolved := Array.replicate 11 none
  statics := none }

def pool7 : Array CpInfo := pool [(1, .class_ 2), (0, u "java/lang/constant/ConstantDesc"), (0, .class_ 4), (0, u "java/lang/Object")] 32

/-- java/lang/constant/ConstantDesc -/
def k7 : Class := { plain "java/lang/constant/ConstantDesc" (some 0) with
  accessFlags := 1537
  interfaces := #[]
  cf := some (fileOf pool7 1 #[] #[] 1537 3 #[] #[])
  fields := #[]
  methods := #[]
  instanceTypes := #[]
  staticTypes := #[]
  resolved := Array.replicate 37 none
  statics := none }

def pool8 : Array CpInfo := pool [(1, .methodref 2 3), (0, .class_ 4), (0, .nameAndType 5 6), (0, u "java/lang/Object"), (0, u "<init>"), (0, u "()V"), (2, .fieldref 10 11), (0, .class_ 12), (0, .nameAndType 13 14), (0, u "java/lang/String"), (0, u "value"), (0, u "[B"), (0, .fieldref 10 16), (0, .nameAndType 17 18), (0, u "coder"), (0, u "B"), (2, u "hash"), (0, u "I"), (2, u "hashIsZero"), (0, u "Z"), (0, .methodref 10 28), (0, .nameAndType 5 29), (0, u "([CIILjava/lang/Void;)V"), (8, .fieldref 10 39), (0, .nameAndType 40 26), (0, u "COMPACT_STRINGS"), (1, .class_ 44), (1, u "java/lang/StringUTF16"), (0, u "compress"), (1, .methodref 42 48), (0, .nameAndType 49 50), (0, u "coderFromArrayLen"), (0, u "([BI)B"), (56, .class_ 109), (1, u "java/lang/StringLatin1"), (32, u "()Z"), (34, .methodref 42 178), (0, .nameAndType 45 179), (0, u "([CII)[B"), (154, u "()I"), (0, .methodref 10 336), (0, .nameAndType 17 337), (0, u "()B"), (53, u "(II)V"), (100, .methodref 10 493), (0, .nameAndType 494 142), (0, u "isLatin1"), (4, .methodref 10 500), (0, .nameAndType 501 391), (0, u "checkIndex"), (2, u "codePointAt"), (2, u "length"), (33, .methodref 107 542), (0, .nameAndType 543 544), (0, u "equals"), (0, u "([B[B)Z"), (28, u "(Ljava/lang/Object;)Z"), (1, .class_ 576), (0, u "java/lang/CharSequence"), (22, u "CASE_INSENSITIVE_ORDER"), (0, u "Ljava/util/Comparator;"), (91, u "isEmpty"), (72, u "(I)I"), (244, u "([C)V"), (42, .fieldref 1054 1055), (0, .class_ 1056), (0, .nameAndType 1057 1058), (0, u "jdk/internal/util/Preconditions"), (0, u "SIOOBE_FORMATTER"), (0, u "Ljava/util/function/BiFunction;"), (0, .methodref 1054 1060), (0, .nameAndType 501 1061), (0, u "(IILjava/util/function/BiFunction;)I"), (39, u "serialPersistentFields"), (0, u "[Ljava/io/ObjectStreamField;"), (0, .class_ 1104), (0, u "java/lang/String$CaseInsensitiveComparator"), (1, .class_ 1107), (0, u "java/io/Serializable"), (0, .class_ 1109), (0, u "java/lang/Comparable"), (0, .class_ 1111), (0, u "java/lang/constant/Constable"), (0, .class_ 1113), (0, u "java/lang/constant/ConstantDesc"), (2, u "serialVersionUID"), (0, u "J"), (3, u "REPL"), (0, u "C"), (2, u "LATIN1"), (1, u "UTF16")] 323

def k8m0 : Method := { name := "<init>", desc := "()V", sig := { parameters := [], returnType := none }, accessFlags := 1, code := none }
def k8c1 : Code := { maxStack := 5, maxLocals := 2, code := jdk_42_method_3_code, exceptionTable := #[], attributes := #[] }
def k8m1 : Method := { name := "<init>", desc := "([C)V", sig := { parameters := [(.array .char)], returnType := none }, accessFlags := 1, code := some k8c1 }
def k8c2 : Code := { maxStack := 2, maxLocals := 1, code := jdk_42_method_54_code, exceptionTable := #[], attributes := #[] }
def k8m2 : Method := { name := "length", desc := "()I", sig := { parameters := [], returnType := some .int }, accessFlags := 1, code := some k8c2 }
def k8c3 : Code := { maxStack := 1, maxLocals := 1, code := jdk_42_method_55_code, exceptionTable := #[], attributes := #[] }
def k8m3 : Method := { name := "isEmpty", desc := "()Z", sig := { parameters := [], returnType := some .boolean }, accessFlags := 1, code := some k8c3 }
def k8c4 : Code := { maxStack := 3, maxLocals := 3, code := jdk_42_method_57_code, exceptionTable := #[], attributes := #[] }
def k8m4 : Method := { name := "codePointAt", desc := "(I)I", sig := { parameters := [.int], returnType := some .int }, accessFlags := 1, code := some k8c4 }
def k8c5 : Code := { maxStack := 2, maxLocals := 3, code := jdk_42_method_66_code, exceptionTable := #[], attributes := #[] }
def k8m5 : Method := { name := "equals", desc := "(Ljava/lang/Object;)Z", sig := { parameters := [(.object "java/lang/Object")], returnType := some .boolean }, accessFlags := 1, code := some k8c5 }
def k8c6 : Code := { maxStack := 4, maxLocals := 6, code := jdk_42_method_149_code, exceptionTable := #[], attributes := #[] }
def k8m6 : Method := { name := "<init>", desc := "([CIILjava/lang/Void;)V", sig := { parameters := [(.array .char), .int, .int, (.object "java/lang/Void")], returnType := none }, accessFlags := 2, code := some k8c6 }
def k8c7 : Code := { maxStack := 1, maxLocals := 1, code := jdk_42_method_152_code, exceptionTable := #[], attributes := #[] }
def k8m7 : Method := { name := "coder", desc := "()B", sig := { parameters := [], returnType := some .byte }, accessFlags := 0, code := some k8c7 }
def k8c8 : Code := { maxStack := 1, maxLocals := 1, code := jdk_42_method_154_code, exceptionTable := #[], attributes := #[] }
def k8m8 : Method := { name := "isLatin1", desc := "()Z", sig := { parameters := [], returnType := some .boolean }, accessFlags := 0, code := some k8c8 }
def k8c9 : Code := { maxStack := 3, maxLocals := 2, code := jdk_42_method_155_code, exceptionTable := #[], attributes := #[] }
def k8m9 : Method := { name := "checkIndex", desc := "(II)V", sig := { parameters := [.int, .int], returnType := none }, accessFlags := 8, code := some k8c9 }
/-- java/lang/String -/
def k8 : Class := { plain "java/lang/String" (some 0) with
  accessFlags := 49
  interfaces := #[3, 4, 5, 6, 7]
  cf := some (fileOf pool8 10 #[.nestMembers #[1103]] #[{ accessFlags := 1, nameIndex := 5, descriptorIndex := 6, attributes := #[] }, { accessFlags := 1, nameIndex := 5, descriptorIndex := 1010, attributes := #[] }, { accessFlags := 1, nameIndex := 507, descriptorIndex := 334, attributes := #[] }, { accessFlags := 1, nameIndex := 692, descriptorIndex := 142, attributes := #[] }, { accessFlags := 1, nameIndex := 504, descriptorIndex := 765, attributes := #[] }, { accessFlags := 1, nameIndex := 543, descriptorIndex := 573, attributes := #[] }, { accessFlags := 2, nameIndex := 5, descriptorIndex := 29, attributes := #[] }, { accessFlags := 0, nameIndex := 17, descriptorIndex := 337, attributes := #[] }, { accessFlags := 0, nameIndex := 494, descriptorIndex := 142, attributes := #[] }, { accessFlags := 8, nameIndex := 501, descriptorIndex := 391, attributes := #[] }] 49 2 #[1106, 1108, 575, 1110, 1112] #[{ accessFlags := 18, nameIndex := 13, descriptorIndex := 14, attributes := #[] }, { accessFlags := 18, nameIndex := 17, descriptorIndex := 18, attributes := #[] }, { accessFlags := 2, nameIndex := 21, descriptorIndex := 22, attributes := #[] }, { accessFlags := 2, nameIndex := 25, descriptorIndex := 26, attributes := #[] }, { accessFlags := 26, nameIndex := 1116, descriptorIndex := 1117, attributes := #[] }, { accessFlags := 24, nameIndex := 40, descriptorIndex := 26, attributes := #[] }, { accessFlags := 26, nameIndex := 1101, descriptorIndex := 1102, attributes := #[] }, { accessFlags := 26, nameIndex := 1121, descriptorIndex := 1122, attributes := #[] }, { accessFlags := 25, nameIndex := 599, descriptorIndex := 600, attributes := #[] }, { accessFlags := 24, nameIndex := 1125, descriptorIndex := 18, attributes := #[] }, { accessFlags := 24, nameIndex := 1127, descriptorIndex := 18, attributes := #[] }])
  fields := #[{ name := "value", type := (.array .byte), accessFlags := 18, slot := 0, constantValue := 0 }, { name := "coder", type := .byte, accessFlags := 18, slot := 1, constantValue := 0 }, { name := "hash", type := .int, accessFlags := 2, slot := 2, constantValue := 0 }, { name := "hashIsZero", type := .boolean, accessFlags := 2, slot := 3, constantValue := 0 }, { name := "serialVersionUID", type := .long, accessFlags := 26, slot := 0, constantValue := 0 }, { name := "COMPACT_STRINGS", type := .boolean, accessFlags := 24, slot := 1, constantValue := 0 }, { name := "serialPersistentFields", type := (.array (.object "java/io/ObjectStreamField")), accessFlags := 26, slot := 2, constantValue := 0 }, { name := "REPL", type := .char, accessFlags := 26, slot := 3, constantValue := 0 }, { name := "CASE_INSENSITIVE_ORDER", type := (.object "java/util/Comparator"), accessFlags := 25, slot := 4, constantValue := 0 }, { name := "LATIN1", type := .byte, accessFlags := 24, slot := 5, constantValue := 0 }, { name := "UTF16", type := .byte, accessFlags := 24, slot := 6, constantValue := 0 }]
  methods := #[k8m0, k8m1, k8m2, k8m3, k8m4, k8m5, k8m6, k8m7, k8m8, k8m9]
  instanceTypes := #[(.array .byte), .byte, .int, .boolean]
  staticTypes := #[.long, .boolean, (.array (.object "java/io/ObjectStreamField")), .char, (.object "java/util/Comparator"), .byte, .byte]
  resolved := Array.replicate 1451 none
  statics := some 0 }

def pool9 : Array CpInfo := pool [(6, .class_ 8), (1, u "java/lang/Object"), (0, u "<init>"), (0, u "()V"), (1, .class_ 14), (1, u "java/lang/StringUTF16"), (31, u "$assertionsDisabled"), (0, u "Z"), (13, u "HI_BYTE_SHIFT"), (0, u "I"), (2, u "LO_BYTE_SHIFT"), (49, .methodref 12 116), (0, .nameAndType 117 118), (0, u "compress"), (0, u "([CI[BII)I"), (3, u "([CII)[B"), (138, u "coderFromArrayLen"), (0, u "([BI)B"), (106, .class_ 371), (1, u "java/lang/StringUTF16$LinesSpliterator"), (58, u "MAX_LENGTH"), (196, .class_ 628), (0, u "java/lang/StringUTF16$CodePointsSpliterator"), (0, .class_ 630), (0, u "java/lang/StringUTF16$CharsSpliterator")] 4

def k9m0 : Method := { name := "<init>", desc := "()V", sig := { parameters := [], returnType := none }, accessFlags := 0, code := none }
def k9c1 : Code := { maxStack := 2, maxLocals := 2, code := jdk_52_method_15_code, exceptionTable := #[], attributes := #[] }
def k9m1 : Method := { name := "coderFromArrayLen", desc := "([BI)B", sig := { parameters := [(.array .byte), .int], returnType := some .byte }, accessFlags := 8, code := some k9c1 }
def k9c2 : Code := { maxStack := 5, maxLocals := 6, code := jdk_52_method_16_code, exceptionTable := #[], attributes := #[] }
def k9m2 : Method := { name := "compress", desc := "([CII)[B", sig := { parameters := [(.array .char), .int, .int], returnType := some (.array .byte) }, accessFlags := 9, code := some k9c2 }
def k9c3 : Code := { maxStack := 3, maxLocals := 7, code := jdk_52_method_21_code, exceptionTable := #[], attributes := #[] }
def k9m3 : Method := { name := "compress", desc := "([CI[BII)I", sig := { parameters := [(.array .char), .int, (.array .byte), .int, .int], returnType := some .int }, accessFlags := 9, code := some k9c3 }
/-- java/lang/StringUTF16 -/
def k9 : Class := { plain "java/lang/StringUTF16" (some 0) with
  accessFlags := 48
  interfaces := #[]
  cf := some (fileOf pool9 12 #[.nestMembers #[627, 629, 369]] #[{ accessFlags := 0, nameIndex := 9, descriptorIndex := 10, attributes := #[] }, { accessFlags := 8, nameIndex := 261, descriptorIndex := 262, attributes := #[] }, { accessFlags := 9, nameIndex := 117, descriptorIndex := 122, attributes := #[] }, { accessFlags := 9, nameIndex := 117, descriptorIndex := 118, attributes := #[] }] 48 6 #[] #[{ accessFlags := 26, nameIndex := 61, descriptorIndex := 62, attributes := #[] }, { accessFlags := 26, nameIndex := 65, descriptorIndex := 62, attributes := #[] }, { accessFlags := 24, nameIndex := 430, descriptorIndex := 62, attributes := #[] }, { accessFlags := 4120, nameIndex := 46, descriptorIndex := 47, attributes := #[] }])
  fields := #[{ name := "HI_BYTE_SHIFT", type := .int, accessFlags := 26, slot := 0, constantValue := 0 }, { name := "LO_BYTE_SHIFT", type := .int, accessFlags := 26, slot := 1, constantValue := 0 }, { name := "MAX_LENGTH", type := .int, accessFlags := 24, slot := 2, constantValue := 0 }, { name := "$assertionsDisabled", type := .boolean, accessFlags := 4120, slot := 3, constantValue := 0 }]
  methods := #[k9m0, k9m1, k9m2, k9m3]
  instanceTypes := #[]
  staticTypes := #[.int, .int, .int, .boolean]
  resolved := Array.replicate 635 none
  statics := none }

def pool10 : Array CpInfo := pool [(2, .class_ 4), (1, u "java/lang/Object"), (0, u "<init>"), (0, u "()V"), (35, .class_ 44), (1, u "java/util/Objects"), (0, u "requireNonNull"), (48, u "(Ljava/lang/Object;Ljava/lang/String;)Ljava/lang/Object;")] 89

def k10m0 : Method := { name := "<init>", desc := "()V", sig := { parameters := [], returnType := none }, accessFlags := 2, code := none }
def k10c1 : Code := { maxStack := 3, maxLocals := 2, code := jdk_31_method_11_code, exceptionTable := #[], attributes := #[] }
def k10m1 : Method := { name := "requireNonNull", desc := "(Ljava/lang/Object;Ljava/lang/String;)Ljava/lang/Object;", sig := { parameters := [(.object "java/lang/Object"), (.object "java/lang/String")], returnType := some (.object "java/lang/Object") }, accessFlags := 9, code := some k10c1 }
/-- java/util/Objects -/
def k10 : Class := { plain "java/util/Objects" (some 0) with
  accessFlags := 49
  interfaces := #[]
  cf := some (fileOf pool10 42 #[] #[{ accessFlags := 2, nameIndex := 5, descriptorIndex := 6, attributes := #[] }, { accessFlags := 9, nameIndex := 45, descriptorIndex := 94, attributes := #[] }] 49 2 #[] #[])
  fields := #[]
  methods := #[k10m0, k10m1]
  instanceTypes := #[]
  staticTypes := #[]
  resolved := Array.replicate 184 none
  statics := none }

def pool11 : Array CpInfo := pool [(2, .class_ 4), (1, u "java/lang/Object"), (0, u "<init>"), (0, u "()V"), (0, .methodref 8 9), (0, .class_ 10), (0, .nameAndType 11 12), (0, u "java/lang/String"), (0, u "length"), (0, u "()I"), (0, .methodref 8 14), (0, .nameAndType 15 16), (0, u "codePointAt"), (0, u "(I)I"), (0, .class_ 18), (0, u "com/example/hitotabi/hitotabi/PrintableAscii"), (17, .methodref 8 37), (0, .nameAndType 38 39), (0, u "isEmpty"), (0, u "()Z"), (4, u "FIRST_ALLOWED"), (0, u "I"), (2, u "LAST_ALLOWED"), (3, u "require"), (0, u "(Ljava/lang/String;ILjava/lang/String;)Ljava/lang/String;")] 18

def k11m0 : Method := { name := "<init>", desc := "()V", sig := { parameters := [], returnType := none }, accessFlags := 2, code := none }
def k11c1 : Code := { maxStack := 7, maxLocals := 5, code := prog_28_method_2_code, exceptionTable := #[], attributes := #[] }
def k11m1 : Method := { name := "require", desc := "(Ljava/lang/String;ILjava/lang/String;)Ljava/lang/String;", sig := { parameters := [(.object "java/lang/String"), .int, (.object "java/lang/String")], returnType := some (.object "java/lang/String") }, accessFlags := 8, code := some k11c1 }
/-- com/example/hitotabi/hitotabi/PrintableAscii -/
def k11 : Class := { plain "com/example/hitotabi/hitotabi/PrintableAscii" (some 0) with
  accessFlags := 48
  interfaces := #[]
  cf := some (fileOf pool11 17 #[] #[{ accessFlags := 2, nameIndex := 5, descriptorIndex := 6, attributes := #[] }, { accessFlags := 8, nameIndex := 52, descriptorIndex := 53, attributes := #[] }] 48 2 #[] #[{ accessFlags := 26, nameIndex := 44, descriptorIndex := 45, attributes := #[] }, { accessFlags := 26, nameIndex := 48, descriptorIndex := 45, attributes := #[] }])
  fields := #[{ name := "FIRST_ALLOWED", type := .int, accessFlags := 26, slot := 0, constantValue := 0 }, { name := "LAST_ALLOWED", type := .int, accessFlags := 26, slot := 1, constantValue := 0 }]
  methods := #[k11m0, k11m1]
  instanceTypes := #[]
  staticTypes := #[.int, .int]
  resolved := Array.replicate 72 none
  statics := none }

def pool12 : Array CpInfo := pool [(2, .class_ 4), (1, u "java/lang/Object"), (0, u "<init>"), (0, u "()V"), (17, .class_ 26), (1, u "jdk/internal/util/Preconditions"), (6, u "checkIndex"), (21, .class_ 56), (0, u "jdk/internal/util/Preconditions$4"), (57, .class_ 115), (0, u "jdk/internal/util/Preconditions$1"), (7, u "SIOOBE_FORMATTER"), (0, u "Ljava/util/function/BiFunction;"), (0, .class_ 126), (0, u "jdk/internal/util/Preconditions$2"), (3, u "AIOOBE_FORMATTER"), (0, .class_ 132), (0, u "jdk/internal/util/Preconditions$3"), (3, u "IOOBE_FORMATTER"), (41, u "(IILjava/util/function/BiFunction;)I")] 15

def k12m0 : Method := { name := "<init>", desc := "()V", sig := { parameters := [], returnType := none }, accessFlags := 1, code := none }
def k12c1 : Code := { maxStack := 3, maxLocals := 3, code := jdk_41_method_11_code, exceptionTable := #[], attributes := #[] }
def k12m1 : Method := { name := "checkIndex", desc := "(IILjava/util/function/BiFunction;)I", sig := { parameters := [.int, .int, (.object "java/util/function/BiFunction")], returnType := some .int }, accessFlags := 9, code := some k12c1 }
/-- jdk/internal/util/Preconditions -/
def k12 : Class := { plain "jdk/internal/util/Preconditions" (some 0) with
  accessFlags := 33
  interfaces := #[]
  cf := some (fileOf pool12 24 #[.nestMembers #[55, 131, 125, 114]] #[{ accessFlags := 1, nameIndex := 5, descriptorIndex := 6, attributes := #[] }, { accessFlags := 9, nameIndex := 33, descriptorIndex := 178, attributes := #[] }] 33 2 #[] #[{ accessFlags := 25, nameIndex := 123, descriptorIndex := 124, attributes := #[] }, { accessFlags := 25, nameIndex := 130, descriptorIndex := 124, attributes := #[] }, { accessFlags := 25, nameIndex := 136, descriptorIndex := 124, attributes := #[] }])
  fields := #[{ name := "SIOOBE_FORMATTER", type := (.object "java/util/function/BiFunction"), accessFlags := 25, slot := 0, constantValue := 0 }, { name := "AIOOBE_FORMATTER", type := (.object "java/util/function/BiFunction"), accessFlags := 25, slot := 1, constantValue := 0 }, { name := "IOOBE_FORMATTER", type := (.object "java/util/function/BiFunction"), accessFlags := 25, slot := 2, constantValue := 0 }]
  methods := #[k12m0, k12m1]
  instanceTypes := #[]
  staticTypes := #[(.object "java/util/function/BiFunction"), (.object "java/util/function/BiFunction"), (.object "java/util/function/BiFunction")]
  resolved := Array.replicate 194 none
  statics := some 1 }

def pool13 : Array CpInfo := pool [(4, .class_ 6), (1, u "java/lang/Object"), (0, u "<init>"), (0, u "()V"), (5, .class_ 16), (1, u "java/lang/StringLatin1"), (104, u "$assertionsDisabled"), (0, u "Z"), (98, .class_ 223), (1, u "java/lang/StringLatin1$LinesSpliterator"), (57, u "equals"), (0, u "([B[B)Z"), (107, .class_ 391), (0, u "java/lang/StringLatin1$CharsSpliterator")] 3

def k13m0 : Method := { name := "<init>", desc := "()V", sig := { parameters := [], returnType := none }, accessFlags := 0, code := none }
def k13c1 : Code := { maxStack := 3, maxLocals := 3, code := jdk_43_method_13_code, exceptionTable := #[], attributes := #[] }
def k13m1 : Method := { name := "equals", desc := "([B[B)Z", sig := { parameters := [(.array .byte), (.array .byte)], returnType := some .boolean }, accessFlags := 9, code := some k13c1 }
/-- java/lang/StringLatin1 -/
def k13 : Class := { plain "java/lang/StringLatin1" (some 0) with
  accessFlags := 48
  interfaces := #[]
  cf := some (fileOf pool13 14 #[.nestMembers #[390, 221]] #[{ accessFlags := 0, nameIndex := 7, descriptorIndex := 8, attributes := #[] }, { accessFlags := 9, nameIndex := 281, descriptorIndex := 282, attributes := #[] }] 48 4 #[] #[{ accessFlags := 4120, nameIndex := 121, descriptorIndex := 122, attributes := #[] }])
  fields := #[{ name := "$assertionsDisabled", type := .boolean, accessFlags := 4120, slot := 0, constantValue := 0 }]
  methods := #[k13m0, k13m1]
  instanceTypes := #[]
  staticTypes := #[.boolean]
  resolved := Array.replicate 395 none
  statics := none }

def pool14 : Array CpInfo := pool [(9, u "<init>"), (6, .class_ 18), (1, u "java/lang/Object"), (0, u "()V"), (1, .class_ 23), (1, u "jdk/internal/util/ArraysSupport"), (0, u "LOG2_ARRAY_LONG_INDEX_SCALE"), (0, u "I"), (2, u "U"), (0, u "Ljdk/internal/misc/Unsafe;"), (8, u "BIG_ENDIAN"), (0, u "Z"), (8, u "LOG2_BYTE_BIT_SIZE"), (4, u "LOG2_ARRAY_INT_INDEX_SCALE"), (54, u "JLA"), (0, u "Ljdk/internal/access/JavaLangAccess;"), (11, u "LOG2_ARRAY_BOOLEAN_INDEX_SCALE"), (9, u "LOG2_ARRAY_BYTE_INDEX_SCALE"), (5, u "LOG2_ARRAY_CHAR_INDEX_SCALE"), (5, u "LOG2_ARRAY_SHORT_INDEX_SCALE"), (18, u "LOG2_ARRAY_FLOAT_INDEX_SCALE"), (24, u "LOG2_ARRAY_DOUBLE_INDEX_SCALE"), (89, u "T_BOOLEAN"), (2, u "T_CHAR"), (1, u "T_FLOAT"), (1, u "T_DOUBLE"), (1, u "T_BYTE"), (1, u "T_SHORT"), (1, u "T_INT"), (1, u "T_LONG"), (1, u "SOFT_MAX_ARRAY_LENGTH")] 83

def k14m0 : Method := { name := "<init>", desc := "()V", sig := { parameters := [], returnType := none }, accessFlags := 2, code := none }
/-- jdk/internal/util/ArraysSupport -/
def k14 : Class := { plain "jdk/internal/util/ArraysSupport" (some 0) with
  accessFlags := 33
  interfaces := #[]
  cf := some (fileOf pool14 21 #[] #[{ accessFlags := 2, nameIndex := 9, descriptorIndex := 19, attributes := #[] }] 33 16 #[] #[{ accessFlags := 24, nameIndex := 28, descriptorIndex := 29, attributes := #[] }, { accessFlags := 26, nameIndex := 38, descriptorIndex := 39, attributes := #[] }, { accessFlags := 25, nameIndex := 121, descriptorIndex := 25, attributes := #[] }, { accessFlags := 25, nameIndex := 131, descriptorIndex := 25, attributes := #[] }, { accessFlags := 25, nameIndex := 137, descriptorIndex := 25, attributes := #[] }, { accessFlags := 25, nameIndex := 143, descriptorIndex := 25, attributes := #[] }, { accessFlags := 25, nameIndex := 53, descriptorIndex := 25, attributes := #[] }, { accessFlags := 25, nameIndex := 24, descriptorIndex := 25, attributes := #[] }, { accessFlags := 25, nameIndex := 162, descriptorIndex := 25, attributes := #[] }, { accessFlags := 25, nameIndex := 187, descriptorIndex := 25, attributes := #[] }, { accessFlags := 26, nameIndex := 48, descriptorIndex := 25, attributes := #[] }, { accessFlags := 25, nameIndex := 277, descriptorIndex := 25, attributes := #[] }, { accessFlags := 25, nameIndex := 280, descriptorIndex := 25, attributes := #[] }, { accessFlags := 25, nameIndex := 282, descriptorIndex := 25, attributes := #[] }, { accessFlags := 25, nameIndex := 284, descriptorIndex := 25, attributes := #[] }, { accessFlags := 25, nameIndex := 286, descriptorIndex := 25, attributes := #[] }, { accessFlags := 25, nameIndex := 288, descriptorIndex := 25, attributes := #[] }, { accessFlags := 25, nameIndex := 290, descriptorIndex := 25, attributes := #[] }, { accessFlags := 25, nameIndex := 292, descriptorIndex := 25, attributes := #[] }, { accessFlags := 26, nameIndex := 108, descriptorIndex := 109, attributes := #[] }, { accessFlags := 25, nameIndex := 294, descriptorIndex := 25, attributes := #[] }])
  fields := #[{ name := "U", type := (.object "jdk/internal/misc/Unsafe"), accessFlags := 24, slot := 0, constantValue := 0 }, { name := "BIG_ENDIAN", type := .boolean, accessFlags := 26, slot := 1, constantValue := 0 }, { name := "LOG2_ARRAY_BOOLEAN_INDEX_SCALE", type := .int, accessFlags := 25, slot := 2, constantValue := 0 }, { name := "LOG2_ARRAY_BYTE_INDEX_SCALE", type := .int, accessFlags := 25, slot := 3, constantValue := 0 }, { name := "LOG2_ARRAY_CHAR_INDEX_SCALE", type := .int, accessFlags := 25, slot := 4, constantValue := 0 }, { name := "LOG2_ARRAY_SHORT_INDEX_SCALE", type := .int, accessFlags := 25, slot := 5, constantValue := 0 }, { name := "LOG2_ARRAY_INT_INDEX_SCALE", type := .int, accessFlags := 25, slot := 6, constantValue := 0 }, { name := "LOG2_ARRAY_LONG_INDEX_SCALE", type := .int, accessFlags := 25, slot := 7, constantValue := 0 }, { name := "LOG2_ARRAY_FLOAT_INDEX_SCALE", type := .int, accessFlags := 25, slot := 8, constantValue := 0 }, { name := "LOG2_ARRAY_DOUBLE_INDEX_SCALE", type := .int, accessFlags := 25, slot := 9, constantValue := 0 }, { name := "LOG2_BYTE_BIT_SIZE", type := .int, accessFlags := 26, slot := 10, constantValue := 0 }, { name := "T_BOOLEAN", type := .int, accessFlags := 25, slot := 11, constantValue := 0 }, { name := "T_CHAR", type := .int, accessFlags := 25, slot := 12, constantValue := 0 }, { name := "T_FLOAT", type := .int, accessFlags := 25, slot := 13, constantValue := 0 }, { name := "T_DOUBLE", type := .int, accessFlags := 25, slot := 14, constantValue := 0 }, { name := "T_BYTE", type := .int, accessFlags := 25, slot := 15, constantValue := 0 }, { name := "T_SHORT", type := .int, accessFlags := 25, slot := 16, constantValue := 0 }, { name := "T_INT", type := .int, accessFlags := 25, slot := 17, constantValue := 0 }, { name := "T_LONG", type := .int, accessFlags := 25, slot := 18, constantValue := 0 }, { name := "JLA", type := (.object "jdk/internal/access/JavaLangAccess"), accessFlags := 26, slot := 19, constantValue := 0 }, { name := "SOFT_MAX_ARRAY_LENGTH", type := .int, accessFlags := 25, slot := 20, constantValue := 0 }]
  methods := #[k14m0]
  instanceTypes := #[]
  staticTypes := #[(.object "jdk/internal/misc/Unsafe"), .boolean, .int, .int, .int, .int, .int, .int, .int, .int, .int, .int, .int, .int, .int, .int, .int, .int, .int, (.object "jdk/internal/access/JavaLangAccess"), .int]
  resolved := Array.replicate 378 none
  statics := none }

def pool15 : Array CpInfo := pool [(1, u "java/lang/Cloneable"), (0, .class_ 1), (0, u "java/lang/Object"), (0, .class_ 3)] 3

/-- java/lang/Cloneable -/
def k15 : Class := { plain "java/lang/Cloneable" (some 0) with
  accessFlags := 1537
  interfaces := #[]
  cf := some (fileOf pool15 2 #[] #[] 1537 4 #[] #[])
  fields := #[]
  methods := #[]
  instanceTypes := #[]
  staticTypes := #[]
  resolved := Array.replicate 8 none
  statics := none }

/-- the primitive byte -/
def k16 : Class := { plain "byte" none with kind := .primitive 'B', accessFlags := 0x411 }
/-- [B -/
def k17 : Class := { plain "[B" (some 0) with kind := .array 16 .byte, interfaces := #[15, 3], accessFlags := 1041 }

/-- the primitive char -/
def k18 : Class := { plain "char" none with kind := .primitive 'C', accessFlags := 0x411 }
/-- [C -/
def k19 : Class := { plain "[C" (some 0) with kind := .array 18 .char, interfaces := #[15, 3], accessFlags := 1041 }

/-- the primitive int -/
def k20 : Class := { plain "int" none with kind := .primitive 'I', accessFlags := 0x411 }
/-- [I -/
def k21 : Class := { plain "[I" (some 0) with kind := .array 20 .int, interfaces := #[15, 3], accessFlags := 1041 }

def heap : Heap := #[{ cls := 8, slots := #[.long 0, .int 1, .null, .int 0, .null, .int 0, .int 0], vm := .statics 8 },
  { cls := 12, slots := #[.null, .null, .null], vm := .statics 12 }]
def classes : Array Class := #[k0, k1, k2, k3, k4, k5, k6, k7, k8, k9, k10, k11, k12, k13, k14, k15, k16, k17, k18, k19, k20, k21]
def interned : List (Array UInt16 × Addr) := []
def slotsUsed : Nat := 10
def theMethod : MethodId := ⟨1, 3⟩
def args0 : Array Value := #[.int 5, .int 6, .int 7]
def aboutOver (below : List Frame) : State where
  vm := { classes := classes, interned := interned.toArray }
  heap := heap
  slotsUsed := slotsUsed
  threads := #[{ frames := .invoking theMethod args0 :: below }]
def below0 : List Frame := [.native { method := ⟨0, 0⟩, args := #[] }]
def about1 : State := aboutOver below0
def p0 : Program := .bare "" "" ""
def e0 : Env := launch0.env 0 0 0
theorem w_frames : about1.frames = Frame.invoking theMethod args0 :: below0 := rfl
set_option maxRecDepth 65536 in
theorem w_args : argsFit about1.vm theMethod args0 = true := by decide +kernel
set_option maxRecDepth 65536 in
theorem w_heap : heapFits about1 = true := by decide +kernel
set_option maxRecDepth 65536 in
theorem w_runnable : about1.curStatus? = some .runnable := by decide +kernel
set_option maxRecDepth 65536 in
theorem w_alone : about1.alone = true := by decide +kernel
set_option maxRecDepth 65536 in
theorem w_named : about1.methodNamed? x = some theMethod := by decide +kernel
set_option maxRecDepth 65536 in
theorem w_hears : about1.hears theMethod below0 = true := by decide +kernel
set_option maxRecDepth 65536 in
theorem w_ripe : about1.ripe theMethod args0 below0 = true := by decide +kernel
theorem w_running : about1.status = .running := rfl
set_option maxRecDepth 65536 in
theorem w_room : about1.hasRoom e0.platform room_1 = true :=
  launch0.hasRoom_least _ room_1 (by decide +kernel) (by decide +kernel) (by decide +kernel) (by decide +kernel) (by decide +kernel) (by decide +kernel)
theorem allAtoms_all (ts : List Jvm.Cond) (a : Array Jvm.Value) (st : Jvm.State) : (allAtoms ts).before a st = ts.all (fun c => c.before a st) := by
  induction ts with
  | nil => rfl
  | cons c t ih =>
    show (Jvm.Cond.and c (allAtoms t)).before a st = _
    rw [Jvm.Cond.before_and, ih, List.all_cons]
def words1 : List Jvm.Cond := Jvm.Cond.code x code maxLocals ret :: tables_1
/-- a 'code' word, met by the world's own term for the bytes: nothing is compared byte by byte -/
theorem code_word {y : MethodName} {bytes : ByteArray} {mx : Nat} {rt : Option FieldType} {a : Array Value} {s : State} {m : MethodId} {meth : Method} {c : Code} (h1 : s.methodNamed? y = some m) (h2 : s.vm.method? m = some meth) (h3 : meth.code = some c) (h4 : c.code = bytes)
    (h5 : (c.maxLocals == mx && c.exceptionTable.isEmpty && decide (c.maxStack ≤ mostOperands) && decide (meth.sig.returnType = rt) && !meth.locks && decide (parseMethodDescriptor y.desc = some meth.sig)) = true) : (Jvm.Cond.code y bytes mx rt).before a s = true := by
  simp only [Bool.and_eq_true, beq_iff_eq, Bool.not_eq_true', decide_eq_true_eq] at h5
  obtain ⟨⟨⟨⟨⟨g1, g2⟩, g3⟩, g4⟩, g5⟩, g6⟩ := h5
  simp [Cond.before, Cond.holds, Cond.value, h1, h2, h3, h4, g1, g2, g3, g4, g5, g6]
def isCode : Jvm.Cond → Bool
  | .code _ _ _ _ => true
  | _ => false
theorem all_split {L : List Jvm.Cond} {P : Jvm.Cond → Bool} (h1 : L.all (fun c => isCode c || P c) = true) (h2 : ∀ c ∈ L.filter isCode, P c = true) : L.all P = true := by
  refine List.all_eq_true.mpr fun c hc => ?_
  have h := List.all_eq_true.mp h1 c hc
  rcases Bool.eq_false_or_eq_true (isCode c) with hi | hi
  · exact h2 c (List.mem_filter.mpr ⟨hc, hi⟩)
  · simpa [hi] using h
set_option maxRecDepth 65536 in
theorem w_c0 : (Jvm.Cond.code x code maxLocals ret).before args0 about1 = true := code_word (m := ⟨1, 3⟩) (meth := k1m3) (c := k1c3) (by decide +kernel) rfl rfl rfl (by decide +kernel)
set_option maxRecDepth 65536 in
theorem w_c1 : (Jvm.Cond.code ({ cls := "com/example/hitotabi/hitotabi/IdempotencyKeyEqualsPinLaw", name := "pc", desc := "(I)C" } : Jvm.MethodName) method_2_code (1 : Nat) (Option.some Jvm.ClassFile.FieldType.char)).before args0 about1 = true := code_word (m := ⟨1, 1⟩) (meth := k1m1) (c := k1c1) (by decide +kernel) rfl rfl rfl (by decide +kernel)
set_option maxRecDepth 65536 in
theorem w_c2 : (Jvm.Cond.code ({ cls := "com/example/hitotabi/hitotabi/IdempotencyKeyEqualsPinLaw", name := "mk", desc := "(ICCC)Ljava/lang/String;" } : Jvm.MethodName) method_3_code (4 : Nat) (Option.some (Jvm.ClassFile.FieldType.object "java/lang/String"))).before args0 about1 = true := code_word (m := ⟨1, 2⟩) (meth := k1m2) (c := k1c2) (by decide +kernel) rfl rfl rfl (by decide +kernel)
set_option maxRecDepth 65536 in
theorem w_c3 : (Jvm.Cond.code ({ cls := "java/lang/String", name := "<init>", desc := "([C)V" } : Jvm.MethodName) jdk_42_method_3_code (2 : Nat) (Option.none : Option Jvm.ClassFile.FieldType)).before args0 about1 = true := code_word (m := ⟨8, 1⟩) (meth := k8m1) (c := k8c1) (by decide +kernel) rfl rfl rfl (by decide +kernel)
set_option maxRecDepth 65536 in
theorem w_c4 : (Jvm.Cond.code ({ cls := "java/lang/String", name := "<init>", desc := "([CIILjava/lang/Void;)V" } : Jvm.MethodName) jdk_42_method_149_code (6 : Nat) (Option.none : Option Jvm.ClassFile.FieldType)).before args0 about1 = true := code_word (m := ⟨8, 6⟩) (meth := k8m6) (c := k8c6) (by decide +kernel) rfl rfl rfl (by decide +kernel)
set_option maxRecDepth 65536 in
theorem w_c5 : (Jvm.Cond.code ({ cls := "java/lang/Object", name := "<init>", desc := "()V" } : Jvm.MethodName) object_method_1_code (1 : Nat) (Option.none : Option Jvm.ClassFile.FieldType)).before args0 about1 = true := code_word (m := ⟨0, 0⟩) (meth := k0m0) (c := k0c0) (by decide +kernel) rfl rfl rfl (by decide +kernel)
set_option maxRecDepth 65536 in
theorem w_c6 : (Jvm.Cond.code ({ cls := "java/lang/StringUTF16", name := "compress", desc := "([CII)[B" } : Jvm.MethodName) jdk_52_method_16_code (6 : Nat) (Option.some (Jvm.ClassFile.FieldType.array Jvm.ClassFile.FieldType.byte))).before args0 about1 = true := code_word (m := ⟨9, 2⟩) (meth := k9m2) (c := k9c2) (by decide +kernel) rfl rfl rfl (by decide +kernel)
set_option maxRecDepth 65536 in
theorem w_c7 : (Jvm.Cond.code ({ cls := "java/lang/StringUTF16", name := "compress", desc := "([CI[BII)I" } : Jvm.MethodName) jdk_52_method_21_code (7 : Nat) (Option.some Jvm.ClassFile.FieldType.int)).before args0 about1 = true := code_word (m := ⟨9, 3⟩) (meth := k9m3) (c := k9c3) (by decide +kernel) rfl rfl rfl (by decide +kernel)
set_option maxRecDepth 65536 in
theorem w_c8 : (Jvm.Cond.code ({ cls := "java/lang/StringUTF16", name := "coderFromArrayLen", desc := "([BI)B" } : Jvm.MethodName) jdk_52_method_15_code (2 : Nat) (Option.some Jvm.ClassFile.FieldType.byte)).before args0 about1 = true := code_word (m := ⟨9, 1⟩) (meth := k9m1) (c := k9c1) (by decide +kernel) rfl rfl rfl (by decide +kernel)
set_option maxRecDepth 65536 in
theorem w_c9 : (Jvm.Cond.code ({ cls := "com/example/hitotabi/hitotabi/IdempotencyKey", name := "<init>", desc := "(Ljava/lang/String;)V" } : Jvm.MethodName) prog_11_method_1_code (2 : Nat) (Option.none : Option Jvm.ClassFile.FieldType)).before args0 about1 = true := code_word (m := ⟨2, 0⟩) (meth := k2m0) (c := k2c0) (by decide +kernel) rfl rfl rfl (by decide +kernel)
set_option maxRecDepth 65536 in
theorem w_c10 : (Jvm.Cond.code ({ cls := "java/util/Objects", name := "requireNonNull", desc := "(Ljava/lang/Object;Ljava/lang/String;)Ljava/lang/Object;" } : Jvm.MethodName) jdk_31_method_11_code (2 : Nat) (Option.some (Jvm.ClassFile.FieldType.object "java/lang/Object"))).before args0 about1 = true := code_word (m := ⟨10, 1⟩) (meth := k10m1) (c := k10c1) (by decide +kernel) rfl rfl rfl (by decide +kernel)
set_option maxRecDepth 65536 in
theorem w_c11 : (Jvm.Cond.code ({ cls := "com/example/hitotabi/hitotabi/PrintableAscii", name := "require", desc := "(Ljava/lang/String;ILjava/lang/String;)Ljava/lang/String;" } : Jvm.MethodName) prog_28_method_2_code (5 : Nat) (Option.some (Jvm.ClassFile.FieldType.object "java/lang/String"))).before args0 about1 = true := code_word (m := ⟨11, 1⟩) (meth := k11m1) (c := k11c1) (by decide +kernel) rfl rfl rfl (by decide +kernel)
set_option maxRecDepth 65536 in
theorem w_c12 : (Jvm.Cond.code ({ cls := "java/lang/String", name := "length", desc := "()I" } : Jvm.MethodName) jdk_42_method_54_code (1 : Nat) (Option.some Jvm.ClassFile.FieldType.int)).before args0 about1 = true := code_word (m := ⟨8, 2⟩) (meth := k8m2) (c := k8c2) (by decide +kernel) rfl rfl rfl (by decide +kernel)
set_option maxRecDepth 65536 in
theorem w_c13 : (Jvm.Cond.code ({ cls := "java/lang/String", name := "coder", desc := "()B" } : Jvm.MethodName) jdk_42_method_152_code (1 : Nat) (Option.some Jvm.ClassFile.FieldType.byte)).before args0 about1 = true := code_word (m := ⟨8, 7⟩) (meth := k8m7) (c := k8c7) (by decide +kernel) rfl rfl rfl (by decide +kernel)
set_option maxRecDepth 65536 in
theorem w_c14 : (Jvm.Cond.code ({ cls := "java/lang/String", name := "codePointAt", desc := "(I)I" } : Jvm.MethodName) jdk_42_method_57_code (3 : Nat) (Option.some Jvm.ClassFile.FieldType.int)).before args0 about1 = true := code_word (m := ⟨8, 4⟩) (meth := k8m4) (c := k8c4) (by decide +kernel) rfl rfl rfl (by decide +kernel)
set_option maxRecDepth 65536 in
theorem w_c15 : (Jvm.Cond.code ({ cls := "java/lang/String", name := "isLatin1", desc := "()Z" } : Jvm.MethodName) jdk_42_method_154_code (1 : Nat) (Option.some Jvm.ClassFile.FieldType.boolean)).before args0 about1 = true := code_word (m := ⟨8, 8⟩) (meth := k8m8) (c := k8c8) (by decide +kernel) rfl rfl rfl (by decide +kernel)
set_option maxRecDepth 65536 in
theorem w_c16 : (Jvm.Cond.code ({ cls := "java/lang/String", name := "checkIndex", desc := "(II)V" } : Jvm.MethodName) jdk_42_method_155_code (2 : Nat) (Option.none : Option Jvm.ClassFile.FieldType)).before args0 about1 = true := code_word (m := ⟨8, 9⟩) (meth := k8m9) (c := k8c9) (by decide +kernel) rfl rfl rfl (by decide +kernel)
set_option maxRecDepth 65536 in
theorem w_c17 : (Jvm.Cond.code ({ cls := "jdk/internal/util/Preconditions", name := "checkIndex", desc := "(IILjava/util/function/BiFunction;)I" } : Jvm.MethodName) jdk_41_method_11_code (3 : Nat) (Option.some Jvm.ClassFile.FieldType.int)).before args0 about1 = true := code_word (m := ⟨12, 1⟩) (meth := k12m1) (c := k12c1) (by decide +kernel) rfl rfl rfl (by decide +kernel)
set_option maxRecDepth 65536 in
theorem w_c18 : (Jvm.Cond.code ({ cls := "java/lang/String", name := "isEmpty", desc := "()Z" } : Jvm.MethodName) jdk_42_method_55_code (1 : Nat) (Option.some Jvm.ClassFile.FieldType.boolean)).before args0 about1 = true := code_word (m := ⟨8, 3⟩) (meth := k8m3) (c := k8c3) (by decide +kernel) rfl rfl rfl (by decide +kernel)
set_option maxRecDepth 65536 in
theorem w_c19 : (Jvm.Cond.code ({ cls := "com/example/hitotabi/hitotabi/IdempotencyKey", name := "equals", desc := "(Ljava/lang/Object;)Z" } : Jvm.MethodName) prog_11_method_3_code (2 : Nat) (Option.some Jvm.ClassFile.FieldType.boolean)).before args0 about1 = true := code_word (m := ⟨2, 1⟩) (meth := k2m1) (c := k2c1) (by decide +kernel) rfl rfl rfl (by decide +kernel)
set_option maxRecDepth 65536 in
theorem w_c20 : (Jvm.Cond.code ({ cls := "java/lang/String", name := "equals", desc := "(Ljava/lang/Object;)Z" } : Jvm.MethodName) jdk_42_method_66_code (3 : Nat) (Option.some Jvm.ClassFile.FieldType.boolean)).before args0 about1 = true := code_word (m := ⟨8, 5⟩) (meth := k8m5) (c := k8c5) (by decide +kernel) rfl rfl rfl (by decide +kernel)
set_option maxRecDepth 65536 in
theorem w_c21 : (Jvm.Cond.code ({ cls := "java/lang/StringLatin1", name := "equals", desc := "([B[B)Z" } : Jvm.MethodName) jdk_43_method_13_code (3 : Nat) (Option.some Jvm.ClassFile.FieldType.boolean)).before args0 about1 = true := code_word (m := ⟨13, 1⟩) (meth := k13m1) (c := k13c1) (by decide +kernel) rfl rfl rfl (by decide +kernel)
def codes1 : List Jvm.Cond := [Jvm.Cond.code x code maxLocals ret, Jvm.Cond.code ({ cls := "com/example/hitotabi/hitotabi/IdempotencyKeyEqualsPinLaw", name := "pc", desc := "(I)C" } : Jvm.MethodName) method_2_code (1 : Nat) (Option.some Jvm.ClassFile.FieldType.char), Jvm.Cond.code ({ cls := "com/example/hitotabi/hitotabi/IdempotencyKeyEqualsPinLaw", name := "mk", desc := "(ICCC)Ljava/lang/String;" } : Jvm.MethodName) method_3_code (4 : Nat) (Option.some (Jvm.ClassFile.FieldType.object "java/lang/String")), Jvm.Cond.code ({ cls := "java/lang/String", name := "<init>", desc := "([C)V" } : Jvm.MethodName) jdk_42_method_3_code (2 : Nat) (Option.none : Option Jvm.ClassFile.FieldType), Jvm.Cond.code ({ cls := "java/lang/String", name := "<init>", desc := "([CIILjava/lang/Void;)V" } : Jvm.MethodName) jdk_42_method_149_code (6 : Nat) (Option.none : Option Jvm.ClassFile.FieldType), Jvm.Cond.code ({ cls := "java/lang/Object", name := "<init>", desc := "()V" } : Jvm.MethodName) object_method_1_code (1 : Nat) (Option.none : Option Jvm.ClassFile.FieldType), Jvm.Cond.code ({ cls := "java/lang/StringUTF16", name := "compress", desc := "([CII)[B" } : Jvm.MethodName) jdk_52_method_16_code (6 : Nat) (Option.some (Jvm.ClassFile.FieldType.array Jvm.ClassFile.FieldType.byte)), Jvm.Cond.code ({ cls := "java/lang/StringUTF16", name := "compress", desc := "([CI[BII)I" } : Jvm.MethodName) jdk_52_method_21_code (7 : Nat) (Option.some Jvm.ClassFile.FieldType.int), Jvm.Cond.code ({ cls := "java/lang/StringUTF16", name := "coderFromArrayLen", desc := "([BI)B" } : Jvm.MethodName) jdk_52_method_15_code (2 : Nat) (Option.some Jvm.ClassFile.FieldType.byte), Jvm.Cond.code ({ cls := "com/example/hitotabi/hitotabi/IdempotencyKey", name := "<init>", desc := "(Ljava/lang/String;)V" } : Jvm.MethodName) prog_11_method_1_code (2 : Nat) (Option.none : Option Jvm.ClassFile.FieldType), Jvm.Cond.code ({ cls := "java/util/Objects", name := "requireNonNull", desc := "(Ljava/lang/Object;Ljava/lang/String;)Ljava/lang/Object;" } : Jvm.MethodName) jdk_31_method_11_code (2 : Nat) (Option.some (Jvm.ClassFile.FieldType.object "java/lang/Object")), Jvm.Cond.code ({ cls := "com/example/hitotabi/hitotabi/PrintableAscii", name := "require", desc := "(Ljava/lang/String;ILjava/lang/String;)Ljava/lang/String;" } : Jvm.MethodName) prog_28_method_2_code (5 : Nat) (Option.some (Jvm.ClassFile.FieldType.object "java/lang/String")), Jvm.Cond.code ({ cls := "java/lang/String", name := "length", desc := "()I" } : Jvm.MethodName) jdk_42_method_54_code (1 : Nat) (Option.some Jvm.ClassFile.FieldType.int), Jvm.Cond.code ({ cls := "java/lang/String", name := "coder", desc := "()B" } : Jvm.MethodName) jdk_42_method_152_code (1 : Nat) (Option.some Jvm.ClassFile.FieldType.byte), Jvm.Cond.code ({ cls := "java/lang/String", name := "codePointAt", desc := "(I)I" } : Jvm.MethodName) jdk_42_method_57_code (3 : Nat) (Option.some Jvm.ClassFile.FieldType.int), Jvm.Cond.code ({ cls := "java/lang/String", name := "isLatin1", desc := "()Z" } : Jvm.MethodName) jdk_42_method_154_code (1 : Nat) (Option.some Jvm.ClassFile.FieldType.boolean), Jvm.Cond.code ({ cls := "java/lang/String", name := "checkIndex", desc := "(II)V" } : Jvm.MethodName) jdk_42_method_155_code (2 : Nat) (Option.none : Option Jvm.ClassFile.FieldType), Jvm.Cond.code ({ cls := "jdk/internal/util/Preconditions", name := "checkIndex", desc := "(IILjava/util/function/BiFunction;)I" } : Jvm.MethodName) jdk_41_method_11_code (3 : Nat) (Option.some Jvm.ClassFile.FieldType.int), Jvm.Cond.code ({ cls := "java/lang/String", name := "isEmpty", desc := "()Z" } : Jvm.MethodName) jdk_42_method_55_code (1 : Nat) (Option.some Jvm.ClassFile.FieldType.boolean), Jvm.Cond.code ({ cls := "com/example/hitotabi/hitotabi/IdempotencyKey", name := "equals", desc := "(Ljava/lang/Object;)Z" } : Jvm.MethodName) prog_11_method_3_code (2 : Nat) (Option.some Jvm.ClassFile.FieldType.boolean), Jvm.Cond.code ({ cls := "java/lang/String", name := "equals", desc := "(Ljava/lang/Object;)Z" } : Jvm.MethodName) jdk_42_method_66_code (3 : Nat) (Option.some Jvm.ClassFile.FieldType.boolean), Jvm.Cond.code ({ cls := "java/lang/StringLatin1", name := "equals", desc := "([B[B)Z" } : Jvm.MethodName) jdk_43_method_13_code (3 : Nat) (Option.some Jvm.ClassFile.FieldType.boolean)]
set_option maxRecDepth 65536 in
theorem codes_eq : words1.filter isCode = codes1 := rfl
theorem w_codes : ∀ c ∈ words1.filter isCode, c.before args0 about1 = true := by
  rw [codes_eq]
  intro c hc
  simp only [codes1, List.mem_cons, List.not_mem_nil, or_false] at hc
  rcases hc with rfl | rfl | rfl | rfl | rfl | rfl | rfl | rfl | rfl | rfl | rfl | rfl | rfl | rfl | rfl | rfl | rfl | rfl | rfl | rfl | rfl | rfl
  · exact w_c0
  · exact w_c1
  · exact w_c2
  · exact w_c3
  · exact w_c4
  · exact w_c5
  · exact w_c6
  · exact w_c7
  · exact w_c8
  · exact w_c9
  · exact w_c10
  · exact w_c11
  · exact w_c12
  · exact w_c13
  · exact w_c14
  · exact w_c15
  · exact w_c16
  · exact w_c17
  · exact w_c18
  · exact w_c19
  · exact w_c20
  · exact w_c21
set_option maxRecDepth 65536 in
theorem w_t1 : (words1.take 24).all (fun c => isCode c || c.before args0 about1) = true := by decide +kernel
set_option maxRecDepth 65536 in
theorem w_t2 : ((words1.drop 24).take 24).all (fun c => isCode c || c.before args0 about1) = true := by decide +kernel
set_option maxRecDepth 65536 in
theorem w_t3 : (((words1.drop 24).drop 24).take 24).all (fun c => isCode c || c.before args0 about1) = true := by decide +kernel
set_option maxRecDepth 65536 in
theorem w_t4 : ((((words1.drop 24).drop 24).drop 24).take 24).all (fun c => isCode c || c.before args0 about1) = true := by decide +kernel
set_option maxRecDepth 65536 in
theorem w_t5 : ((((words1.drop 24).drop 24).drop 24).drop 24).all (fun c => isCode c || c.before args0 about1) = true := by decide +kernel
theorem w_tables : (allAtoms (Jvm.Cond.code x code maxLocals ret :: tables_1)).before args0 about1 = true := by
  rw [allAtoms_all]
  show words1.all (fun c => c.before args0 about1) = true
  refine all_split ?_ w_codes
  rw [← List.take_append_drop 24 words1, List.all_append, w_t1, ← List.take_append_drop 24 (words1.drop 24), List.all_append, w_t2, ← List.take_append_drop 24 ((words1.drop 24).drop 24), List.all_append, w_t3, ← List.take_append_drop 24 (((words1.drop 24).drop 24).drop 24), List.all_append, w_t4, w_t5]
  rfl
set_option maxRecDepth 65536 in
theorem w_rest : rest_1_c.before args0 about1 = true := by decide +kernel
set_option maxRecDepth 65536 in
theorem w_case : (Jvm.Cond.and given_1 narrow_1).before args0 about1 = true := by decide +kernel
theorem w_applies : (headSpec (Jvm.Cond.code x code maxLocals ret :: tables_1) room_1).applies x e0.platform about1 = true :=
  (Spec.applies_iff w_frames).mpr ⟨w_running, w_runnable, w_alone, w_named, w_hears, w_ripe, w_room, w_tables⟩
theorem atStart : AtStart classFile x code maxLocals ret World_1 tables_1 room_1 Calls_1 rest_1 Pre_1 launch0 p0 e0 about1 theMethod args0 below0 :=
  ⟨lists_1, trivial, launch0.admits_env _ _ _, launch0.least_env, fairChoices_fair.cas, fairChoices_fair.clock, w_frames, w_args, w_heap, w_applies, trivial, w_rest, w_case⟩
end start1
theorem witness_1 : WitnessClaimed_1 := ⟨start1.p0, start1.e0, start1.about1, start1.theMethod, start1.args0, start1.below0, start1.atStart⟩
end Jvm.Pilot.@@N@@
