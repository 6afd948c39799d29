import JvmDerived
import JvmDerived.Pilot.@@N@@Statement
import JvmDerived.Pilot.@@N@@Code
set_option linter.unusedVariables false
set_option linter.unusedSimpArgs false
namespace Jvm.RoadKit
open Sem ClassFile Op Lib Jvm.Stand Jvm.Free Jvm.LawKit
section New
variable {p : Program} {l : Launch} {e : Env} {R : Room} {s : State} {m : MethodId} {args : Array Value} {below : List Frame} {meth : Method} {c : Code} {T : State} {locs : List Loc} {cells slots : Nat}
theorem retI (X : Stand p l e R s m args below meth c T locs cells slots) (hx : p.tables.exec = Jvm.exec) {pc : Nat} {Ls : Array Slot} {z : Int32} {rest : List Value} (hret : meth.sig.returnType = some .int) (hd : decode c.code pc = .ok (.ireturn, 1)) {fs : List Frame}
    (hl : ∀ (f : JFrame) (acts : List Action), f.method = m → f.locked = none → f.entered = [] → (doReturn e (T.setTop f) acts (some (.int z))).1 = T.setFrames fs) : Steps p.tables e below (T.setTop (mkF m pc Ls (.int z :: rest))) (T.setFrames fs) := by
  have hm' : T.vm.method? m = some meth := X.method'
  have hn : narrow .int (.int z) = .int z := rfl
  show Steps p.tables e below (T.setTop { method := m, pc := pc, locals := Ls, stack := _ :: rest, locked := none }) _
  jvm_step X.here [X.here.top, hx, hd, hm', hret, hn]
  first | (intro acts; rw [hl _ acts rfl rfl rfl]) | rw [hl _ _ rfl rfl rfl]
  exact Steps.refl _
end New
end Jvm.RoadKit
/- laws to paste: Road.backV, Road.eqW (cut by pick.py; bodies as the Statement names them) -/
namespace Jvm.Pilot.@@N@@
namespace StrChars
open Jvm Sem ClassFile Op Lib Jvm.Stand Jvm.Free.XT Jvm.Free.ALB Jvm.Free.JM Jvm.Free
open Jvm.Lib.Cold (StaticIs)
/-- a char array whose places are chars -/
def Ch (a : Addr) (A : Cell) (U : State) : Prop := Arr .char a A U ∧ Typed .char A
theorem Ch.mv {a : Addr} {A : Cell} {U U' : State} (h : Ch a A U) (hal : U.vm.Alike U'.vm) (hh : U'.heap = U.heap) : Ch a A U' := ⟨h.1.mv hal hh, h.2⟩
theorem Ch.keep {a : Addr} {A : Cell} {U U' : State} (h : Ch a A U) (hal : U.vm.Alike U'.vm) (hk : U'.heap[a]? = some A) : Ch a A U' := ⟨h.1.keep hal hk, h.2⟩
/-- what place i of a char[]'s cell holds -/
def cv (A : Cell) (i : Nat) : Int32 := match A.slots[i]? with | some (.int x) => x | _ => 0
theorem Ch.get {a : Addr} {A : Cell} {U : State} (h : Ch a A U) {i : Nat} (hi : i < A.slots.size) : A.slots[i]? = some (.int (cv A i)) := by
  have e := Array.getElem?_eq_getElem hi
  have f := h.2 i _ e
  unfold cv; rw [e]
  generalize A.slots[i] = v at f
  cases v <;> simp [fits] at f ⊢
/-- the byte that i2b leaves of a char -/
def lo8 (x : Int32) : Int32 := x.toInt8.toInt32
theorem fits_lo8 (y : Int32) : fits .byte (.int (lo8 y)) = true := by
  have h1 := y.toInt8.le_toInt
  have h2 := y.toInt8.toInt_lt
  simp only [lo8, fits, Bool.and_eq_true, decide_eq_true_eq, Int32.le_iff_toInt_le, Int8.toInt_toInt32, show (-128 : Int32).toInt = -128 from by decide, show (127 : Int32).toInt = 127 from by decide]
  omega
/-- A' is A but that each place j of lo .. hi - 1 holds f j -/
def Laid (A A' : Cell) (lo hi : Nat) (f : Nat → Value) : Prop := A'.cls = A.cls ∧ A'.vm = A.vm ∧ A'.slots.size = A.slots.size ∧ ∀ i, A'.slots[i]? = if lo ≤ i ∧ i < hi then some (f i) else A.slots[i]?
theorem Laid.zero (A : Cell) (lo : Nat) (f : Nat → Value) : Laid A A lo (lo + 0) f := ⟨rfl, rfl, rfl, fun i => by rw [if_neg (by omega)]⟩
theorem Laid.step {A Ak : Cell} {lo k : Nat} {f : Nat → Value} {v : Value} (h : Laid A Ak lo k f) (hlo : lo ≤ k) (hk : k < Ak.slots.size) (hv : v = f k) : Laid A (Ak.setSlot k v) lo (k + 1) f := by
  refine ⟨h.1, h.2.1, by simpa [Cell.setSlot] using h.2.2.1, fun i => ?_⟩
  by_cases e : k = i
  · subst e; rw [Cell.slots_setSlot_self v hk, if_pos (by omega), hv]
  · rw [Cell.slots_setSlot_ne v e, h.2.2.2 i]
    by_cases q : lo ≤ i ∧ i < k
    · rw [if_pos q, if_pos (by omega)]
    · rw [if_neg q, if_neg (by omega)]
def U16 : String := "java/lang/StringUTF16"
namespace Cmp5
def yN : MethodName := ⟨"java/lang/StringUTF16", "compress", "([CI[BII)I"⟩
abbrev yB : ByteArray := jdk_52_method_21_code
theorem d0 : decode yB 0 = .ok (.iconst 0, 1) := by decide +kernel
theorem d1 : decode yB 1 = .ok (.istore 5, 2) := by decide +kernel
theorem d3 : decode yB 3 = .ok (.iload 5, 2) := by decide +kernel
theorem d5 : decode yB 5 = .ok (.iload 4, 2) := by decide +kernel
theorem d7 : decode yB 7 = .ok (.if_icmp (.ge) 37, 3) := by decide +kernel
theorem d10 : decode yB 10 = .ok (.aload_n 0, 1) := by decide +kernel
theorem d11 : decode yB 11 = .ok (.iload_n 1, 1) := by decide +kernel
theorem d12 : decode yB 12 = .ok (.caload, 1) := by decide +kernel
theorem d13 : decode yB 13 = .ok (.istore 6, 2) := by decide +kernel
theorem d15 : decode yB 15 = .ok (.iload 6, 2) := by decide +kernel
theorem d17 : decode yB 17 = .ok (.sipush 255, 3) := by decide +kernel
theorem d20 : decode yB 20 = .ok (.if_icmp (.le) 6, 3) := by decide +kernel
theorem d26 : decode yB 26 = .ok (.aload_n 2, 1) := by decide +kernel
theorem d27 : decode yB 27 = .ok (.iload_n 3, 1) := by decide +kernel
theorem d28 : decode yB 28 = .ok (.iload 6, 2) := by decide +kernel
theorem d30 : decode yB 30 = .ok (.i2b, 1) := by decide +kernel
theorem d31 : decode yB 31 = .ok (.bastore, 1) := by decide +kernel
theorem d32 : decode yB 32 = .ok (.iinc 1 1, 3) := by decide +kernel
theorem d35 : decode yB 35 = .ok (.iinc 3 1, 3) := by decide +kernel
theorem d38 : decode yB 38 = .ok (.iinc 5 1, 3) := by decide +kernel
theorem d41 : decode yB 41 = .ok (.goto (-38), 3) := by decide +kernel
theorem d44 : decode yB 44 = .ok (.iload 4, 2) := by decide +kernel
theorem d46 : decode yB 46 = .ok (.ireturn, 1) := by decide +kernel
def site : List Cond := []
def tab : Cond := tabOf yN yB 7 (some .int) site
def P (b : Addr) (A : Cell) (d : Addr) (B : Cell) (o q len : Nat) (args : Array Value) (s : State) : Prop := args = #[.ref b, .int (Int32.ofNat o), .ref d, .int (Int32.ofNat q), .int (Int32.ofNat len)] ∧ Ch b A s ∧ Arr .byte d B s ∧ b ≠ d ∧ o + len ≤ A.slots.size ∧ q + len ≤ B.slots.size ∧ ∀ i, i < len → ¬ 255 < cv A (o + i)
def E (b : Addr) (A : Cell) (d : Addr) (B : Cell) (o q len : Nat) (r : Option Value) (s u : State) : Prop := r = some (.int (Int32.ofNat len)) ∧ ∃ B', Put d B' s u ∧ Laid B B' q (q + len) (fun j => Value.int (lo8 (cv A (o + (j - q)))))
/-- no char of the range above 255: len; the places written hold each char's low byte -/
theorem law (l : Launch) (b : Addr) (A : Cell) (d : Addr) (B : Cell) (o q len : Nat) : Law l yN 5 5 0 0 yB 7 (some .int) site (P b A d B o q len) (E b A d B o q len) (copyLocs d q len) 0 0 := by
  refine Law.of_walk (plainFor_of_name (by decide +kernel)) (by decide +kernel) (by decide +kernel) (by decide) (fun _ _ h => by rw [h.1]; rfl) (fun _ U U' hal hh h => ⟨h.1, h.2.1.mv hal hh, h.2.2.1.mv hal hh, h.2.2.2⟩) (fun r U U' V V' h1 hal h2 h => ⟨h.1, h.2.elim fun B' q => ⟨B', q.1.mv h1 h2, q.2⟩⟩) ?_
  intro p e s m args below meth c s₁ X0 hexec hbytes hml hret hlk hnm hown hh0 W hP
  obtain ⟨rfl, hA, hB, hne, l1, l2, hp⟩ := hP
  have c1 : Steps p.tables e below (s₁.setTop (entryFrame m #[.ref b, .int (Int32.ofNat o), .ref d, .int (Int32.ofNat q), .int (Int32.ofNat len)] 7)) (s₁.setTop (mkF m 0 #[.val (.ref b), .val (.int (Int32.ofNat o)), .val (.ref d), .val (.int (Int32.ofNat q)), .val (.int (Int32.ofNat len)), .unset, .unset] [])) := entry rfl
  have hA0 := hA.1.mv X0.warmed.alike hh0
  have hB0 := hB.mv X0.warmed.alike hh0
  have a31 := hA.1.2.2.2
  have c2 : Steps p.tables e below (s₁.setTop (entryFrame m #[.ref b, .int (Int32.ofNat o), .ref d, .int (Int32.ofNat q), .int (Int32.ofNat len)] 7)) (s₁.setTop (mkF m 3 #[.val (.ref b), .val (.int (Int32.ofNat o)), .val (.ref d), .val (.int (Int32.ofNat q)), .val (.int (Int32.ofNat len)), .val (.int 0), .unset] [])) := c1.trans (by
    refine iconstV X0.here hexec rfl 0 (hb hbytes d0) (by decide) ?_
    refine XS.istore X0.here hexec rfl (hb hbytes d1) rfl rfl ?_
    exact Steps.refl _)
  have loop : ∀ (r i : Nat), i + r = len → ∀ (z : Slot), (z = .unset ∨ ∃ w, z = .val w ∧ w.category = 1) → ∀ (Tl : State) (Bk : Cell), Stand p l e { frames := 0, locals := 0, cells := 0, slots := 0 } s m #[.ref b, .int (Int32.ofNat o), .ref d, .int (Int32.ofNat q), .int (Int32.ofNat len)] below meth c Tl ([] ++ copyLocs d q i) 0 0 → Put d Bk s₁ Tl → Laid B Bk q (q + i) (fun j => Value.int (lo8 (cv A (o + (j - q))))) →
      Steps p.tables e below (s₁.setTop (entryFrame m #[.ref b, .int (Int32.ofNat o), .ref d, .int (Int32.ofNat q), .int (Int32.ofNat len)] 7)) (Tl.setTop (mkF m 3 #[.val (.ref b), .val (.int (Int32.ofNat (o + i))), .val (.ref d), .val (.int (Int32.ofNat (q + i))), .val (.int (Int32.ofNat len)), .val (.int (Int32.ofNat i)), z] [])) → ∃ (T' : State) (B' : Cell) (z' : Slot), Stand p l e { frames := 0, locals := 0, cells := 0, slots := 0 } s m #[.ref b, .int (Int32.ofNat o), .ref d, .int (Int32.ofNat q), .int (Int32.ofNat len)] below meth c T' ([] ++ copyLocs d q len) 0 0 ∧ Put d B' s₁ T' ∧ Laid B B' q (q + len) (fun j => Value.int (lo8 (cv A (o + (j - q))))) ∧
      Steps p.tables e below (s₁.setTop (entryFrame m #[.ref b, .int (Int32.ofNat o), .ref d, .int (Int32.ofNat q), .int (Int32.ofNat len)] 7)) (T'.setTop (mkF m 3 #[.val (.ref b), .val (.int (Int32.ofNat (o + len))), .val (.ref d), .val (.int (Int32.ofNat (q + len))), .val (.int (Int32.ofNat len)), .val (.int (Int32.ofNat len)), z'] [])) := by
    intro r
    induction r with
    | zero =>
      intro i hi z hz Tl Bk Xl pl fl cl
      have hil : i = len := by omega
      rw [hil] at Xl fl cl
      exact ⟨Tl, Bk, z, Xl, pl, fl, cl⟩
    | succ r ih =>
      intro i hi z hz Tl Bk Xl pl fl cl
      have all := X0.warmed.alike.symm.trans Xl.warmed.alike
      have hAl := hA0.keep all (pl.other hne hA0.1)
      have hBk := hB0.like all pl.1 fl.1 fl.2.1 fl.2.2.1
      have hlt : q + i < Bk.slots.size := by rw [fl.2.2.1]; omega
      have c3 : Steps p.tables e below (s₁.setTop (entryFrame m #[.ref b, .int (Int32.ofNat o), .ref d, .int (Int32.ofNat q), .int (Int32.ofNat len)] 7)) (Tl.setTop (mkF m 12 #[.val (.ref b), .val (.int (Int32.ofNat (o + i))), .val (.ref d), .val (.int (Int32.ofNat (q + i))), .val (.int (Int32.ofNat len)), .val (.int (Int32.ofNat i)), z] [.int (Int32.ofNat (o + i)), .ref b])) := cl.trans (by
        refine XS.iload Xl.here hexec rfl (hb hbytes d3) rfl ?_
        refine XS.iload Xl.here hexec rfl (hb hbytes d5) rfl ?_
        refine XS.icmpNo Xl.here hexec rfl (hb hbytes d7) rfl (ii_ge_f (lt32 (by omega) (by omega))) ?_
        refine XS.aloadN Xl.here hexec rfl (hb hbytes d10) rfl rfl ?_
        refine XS.iloadN Xl.here hexec rfl (hb hbytes d11) rfl ?_
        exact Steps.refl _)
      have c4 : Steps p.tables e below (s₁.setTop (entryFrame m #[.ref b, .int (Int32.ofNat o), .ref d, .int (Int32.ofNat q), .int (Int32.ofNat len)] 7)) (Tl.setTop (mkF m 13 #[.val (.ref b), .val (.int (Int32.ofNat (o + i))), .val (.ref d), .val (.int (Int32.ofNat (q + i))), .val (.int (Int32.ofNat len)), .val (.int (Int32.ofNat i)), z] [.int (cv A (o + i))])) := c3.trans (by
        refine Xl.aget hexec hAl rfl (hA.get (i := o + i) (by omega)) rfl rfl (hb hbytes d12) ?_
        exact Steps.refl _)
      have c5 : Steps p.tables e below (s₁.setTop (entryFrame m #[.ref b, .int (Int32.ofNat o), .ref d, .int (Int32.ofNat q), .int (Int32.ofNat len)] 7)) (Tl.setTop (mkF m 15 #[.val (.ref b), .val (.int (Int32.ofNat (o + i))), .val (.ref d), .val (.int (Int32.ofNat (q + i))), .val (.int (Int32.ofNat len)), .val (.int (Int32.ofNat i)), .val (.int (cv A (o + i)))] [])) := c4.trans (by
        refine XS.istoreS Xl.here hexec rfl (hb hbytes d13) rfl rfl hz ?_
        exact Steps.refl _)
      have c6 : Steps p.tables e below (s₁.setTop (entryFrame m #[.ref b, .int (Int32.ofNat o), .ref d, .int (Int32.ofNat q), .int (Int32.ofNat len)] 7)) (Tl.setTop (mkF m 31 #[.val (.ref b), .val (.int (Int32.ofNat (o + i))), .val (.ref d), .val (.int (Int32.ofNat (q + i))), .val (.int (Int32.ofNat len)), .val (.int (Int32.ofNat i)), .val (.int (cv A (o + i)))] [.int (lo8 (cv A (o + i))), .int (Int32.ofNat (q + i)), .ref d])) := c5.trans (by
        refine XS.iload Xl.here hexec rfl (hb hbytes d15) rfl ?_
        refine sipushV Xl.here hexec rfl 255 (hb hbytes d17) (by decide) ?_
        refine XS.icmpYes Xl.here hexec rfl (pc0 := 20) rfl (hb hbytes d20) rfl (ii_le_t (hp i (by omega))) (by decide) rfl ?_
        refine XS.aloadN Xl.here hexec rfl (hb hbytes d26) rfl rfl ?_
        refine XS.iloadN Xl.here hexec rfl (hb hbytes d27) rfl ?_
        refine XS.iload Xl.here hexec rfl (hb hbytes d28) rfl ?_
        refine i2b Xl.here hexec rfl (hb hbytes d30) rfl ?_
        exact Steps.refl _)
      obtain ⟨T7, X7, p7, st7⟩ := Xl.aput hexec hBk rfl hlt rfl (fits_lo8 (cv A (o + i))) (g := (mkF m 31 #[.val (.ref b), .val (.int (Int32.ofNat (o + i))), .val (.ref d), .val (.int (Int32.ofNat (q + i))), .val (.int (Int32.ofNat len)), .val (.int (Int32.ofNat i)), .val (.int (cv A (o + i)))] [.int (lo8 (cv A (o + i))), .int (Int32.ofNat (q + i)), .ref d])) rfl (rest := []) rfl (hb hbytes d31)
      have c8 : Steps p.tables e below (s₁.setTop (entryFrame m #[.ref b, .int (Int32.ofNat o), .ref d, .int (Int32.ofNat q), .int (Int32.ofNat len)] 7)) (T7.setTop (mkF m 32 #[.val (.ref b), .val (.int (Int32.ofNat (o + i))), .val (.ref d), .val (.int (Int32.ofNat (q + i))), .val (.int (Int32.ofNat len)), .val (.int (Int32.ofNat i)), .val (.int (cv A (o + i)))] [])) := c6.trans (st7 _ (Steps.refl _))
      have c9 : Steps p.tables e below (s₁.setTop (entryFrame m #[.ref b, .int (Int32.ofNat o), .ref d, .int (Int32.ofNat q), .int (Int32.ofNat len)] 7)) (T7.setTop (mkF m 3 #[.val (.ref b), .val (.int (Int32.ofNat (o + i) + 1)), .val (.ref d), .val (.int (Int32.ofNat (q + i) + 1)), .val (.int (Int32.ofNat len)), .val (.int (Int32.ofNat i + 1)), .val (.int (cv A (o + i)))] [])) := c8.trans (by
        refine iincV X7.here hexec rfl 1 (hb hbytes d32) (by decide) rfl rfl ?_
        refine iincV X7.here hexec rfl 1 (hb hbytes d35) (by decide) rfl rfl ?_
        refine iincV X7.here hexec rfl 1 (hb hbytes d38) (by decide) rfl rfl ?_
        refine XS.goto X7.here hexec rfl (pc0 := 41) rfl (hb hbytes d41) (by decide) rfl ?_
        exact Steps.refl _)
      have c10 : Steps p.tables e below (s₁.setTop (entryFrame m #[.ref b, .int (Int32.ofNat o), .ref d, .int (Int32.ofNat q), .int (Int32.ofNat len)] 7)) (T7.setTop (mkF m 3 #[.val (.ref b), .val (.int (Int32.ofNat (o + (i + 1)))), .val (.ref d), .val (.int (Int32.ofNat (q + (i + 1)))), .val (.int (Int32.ofNat len)), .val (.int (Int32.ofNat (i + 1))), .val (.int (cv A (o + i)))] [])) := by
        have := c9
        rw [succ32, succ32, succ32] at this
        exact this
      exact ih (i + 1) (by omega) _ (Or.inr ⟨_, rfl, rfl⟩) T7 _ (by rw [copyLocs_step, ← List.append_assoc]; exact X7) (pl.trans p7) (fl.step (by omega) hlt (by simp)) c10
  obtain ⟨T9, B9, z9, X9, p9, f9, g9⟩ := loop len 0 (by omega) .unset (Or.inl rfl) s₁ B (by simpa [copyLocs] using X0) ⟨hB0.1, fun _ _ => rfl, rfl⟩ (Laid.zero _ _ _) c2
  have c11 : Steps p.tables e below (s₁.setTop (entryFrame m #[.ref b, .int (Int32.ofNat o), .ref d, .int (Int32.ofNat q), .int (Int32.ofNat len)] 7)) (T9.setTop (mkF m 46 #[.val (.ref b), .val (.int (Int32.ofNat (o + len))), .val (.ref d), .val (.int (Int32.ofNat (q + len))), .val (.int (Int32.ofNat len)), .val (.int (Int32.ofNat len)), z9] [.int (Int32.ofNat len)])) := g9.trans (by
    refine XS.iload X9.here hexec rfl (hb hbytes d3) rfl ?_
    refine XS.iload X9.here hexec rfl (hb hbytes d5) rfl ?_
    refine XS.icmpYes X9.here hexec rfl (pc0 := 7) rfl (hb hbytes d7) rfl (ii_ge_t (nlt32 (by omega) (Nat.le_refl _))) (by decide) rfl ?_
    refine XS.iload X9.here hexec rfl (hb hbytes d44) rfl ?_
    exact Steps.refl _)
  exact ⟨T9, some (.int (Int32.ofNat len)), _, _, _, X9, by simp, rfl, rfl, (fun h => by cases h), ⟨rfl, B9, p9.from hh0, f9⟩, fun fs hl => c11.trans (X9.ireturnOut hexec hret rfl (Or.inl rfl) (hb hbytes d46) hl)⟩
end Cmp5
namespace Cmp3
def yN : MethodName := ⟨"java/lang/StringUTF16", "compress", "([CII)[B"⟩
abbrev yB : ByteArray := jdk_52_method_16_code
theorem d0 : decode yB 0 = .ok (.iload_n 2, 1) := by decide +kernel
theorem d1 : decode yB 1 = .ok (.newarray .byte, 2) := by decide +kernel
theorem d3 : decode yB 3 = .ok (.astore_n 3, 1) := by decide +kernel
theorem d4 : decode yB 4 = .ok (.aload_n 0, 1) := by decide +kernel
theorem d5 : decode yB 5 = .ok (.iload_n 1, 1) := by decide +kernel
theorem d6 : decode yB 6 = .ok (.aload_n 3, 1) := by decide +kernel
theorem d7 : decode yB 7 = .ok (.iconst 0, 1) := by decide +kernel
theorem d8 : decode yB 8 = .ok (.iload_n 2, 1) := by decide +kernel
theorem d9 : decode yB 9 = .ok (.invokestatic 115, 3) := by decide +kernel
theorem d12 : decode yB 12 = .ok (.istore 4, 2) := by decide +kernel
theorem d14 : decode yB 14 = .ok (.iload 4, 2) := by decide +kernel
theorem d16 : decode yB 16 = .ok (.iload_n 2, 1) := by decide +kernel
theorem d17 : decode yB 17 = .ok (.if_icmp (.eq) 40, 3) := by decide +kernel
theorem d57 : decode yB 57 = .ok (.aload_n 3, 1) := by decide +kernel
theorem d58 : decode yB 58 = .ok (.areturn, 1) := by decide +kernel
def site : List Cond := [.arrayClass .byte, Cmp5.tab] ++ staticW U16 115 Cmp5.yN
def tab : Cond := tabOf yN yB 6 (some (.array .byte)) site
def P (b : Addr) (A : Cell) (o len : Nat) (args : Array Value) (s : State) : Prop := args = #[.ref b, .int (Int32.ofNat o), .int (Int32.ofNat len)] ∧ Ch b A s ∧ o + len ≤ A.slots.size ∧ len ≤ 536870912 ∧ ∀ i, i < len → ¬ 255 < cv A (o + i)
def E (b : Addr) (A : Cell) (o len : Nat) (r : Option Value) (s u : State) : Prop := NewArr .byte "[B" len (fun j => .int (lo8 (cv A (o + j)))) r s u ∧ u.heap.size = s.heap.size + 1
/-- no char of the range above 255: a new byte[] of their low bytes -/
theorem law (l : Launch) (b : Addr) (A : Cell) (o len : Nat) : Law l yN 3 3 1 18 yB 6 (some (.array .byte)) site (P b A o len) (E b A o len) [] 1 len := by
  refine Law.of_walk (plainFor_of_name (by decide +kernel)) (by decide +kernel) (by decide +kernel) (by decide) (fun _ _ h => by rw [h.1]; rfl) (fun _ U U' hal hh h => ⟨h.1, h.2.1.mv hal hh, h.2.2⟩) (fun r U U' V V' h1 hal h2 h => ⟨NewArr.mv r U U' V V' h1 hal h2 h.1, by rw [h1, h2]; exact h.2⟩) ?_
  intro p e s m args below meth c s₁ X0 hexec hbytes hml hret hlk hnm hown hh0 W hP
  obtain ⟨rfl, hA, l1, l2, hp⟩ := hP
  have a31 := hA.1.2.2.2
  have c1 : Steps p.tables e below (s₁.setTop (entryFrame m #[.ref b, .int (Int32.ofNat o), .int (Int32.ofNat len)] 6)) (s₁.setTop (mkF m 0 #[.val (.ref b), .val (.int (Int32.ofNat o)), .val (.int (Int32.ofNat len)), .unset, .unset, .unset] [])) := entry rfl
  have c2 : Steps p.tables e below (s₁.setTop (entryFrame m #[.ref b, .int (Int32.ofNat o), .int (Int32.ofNat len)] 6)) (s₁.setTop (mkF m 1 #[.val (.ref b), .val (.int (Int32.ofNat o)), .val (.int (Int32.ofNat len)), .unset, .unset, .unset] [.int (Int32.ofNat len)])) := c1.trans (by
    refine XS.iloadN X0.here hexec rfl (hb hbytes d0) rfl ?_
    exact Steps.refl _)
  obtain ⟨T3, B3, X3, ba3, bs3, bv3, bh3, bf3, st3⟩ := X0.anew hexec (atype := .byte) (wk W (.arrayClass .byte)) rfl (by show len * 1 ≤ _; omega) (by omega) (g := (mkF m 1 #[.val (.ref b), .val (.int (Int32.ofNat o)), .val (.int (Int32.ofNat len)), .unset, .unset, .unset] [.int (Int32.ofNat len)])) rfl (hb hbytes d1) (rest := []) rfl (Nat.le_refl _) (by show 0 + len ≤ len; omega)
  rw [hh0] at ba3 st3
  have kp3 : XT.Kept s T3 := (XT.Kept.of_eq hh0).push bh3
  have hA3 := hA.keep X3.warmed.alike (kp3 _ _ hA.1.1)
  have hne : b ≠ s.heap.size := hA.1.ne
  have c4 : Steps p.tables e below (s₁.setTop (entryFrame m #[.ref b, .int (Int32.ofNat o), .int (Int32.ofNat len)] 6)) (T3.setTop (mkF m 3 #[.val (.ref b), .val (.int (Int32.ofNat o)), .val (.int (Int32.ofNat len)), .unset, .unset, .unset] [.ref s.heap.size])) := c2.trans (st3 _ (Steps.refl _))
  have c5 : Steps p.tables e below (s₁.setTop (entryFrame m #[.ref b, .int (Int32.ofNat o), .int (Int32.ofNat len)] 6)) (T3.setTop (mkF m 9 #[.val (.ref b), .val (.int (Int32.ofNat o)), .val (.int (Int32.ofNat len)), .val (.ref s.heap.size), .unset, .unset] [.int (Int32.ofNat len), .int 0, .ref s.heap.size, .int (Int32.ofNat o), .ref b])) := c4.trans (by
    refine XS.astoreN X3.here hexec rfl (hb hbytes d3) rfl rfl rfl ?_
    refine XS.aloadN X3.here hexec rfl (hb hbytes d4) rfl rfl ?_
    refine XS.iloadN X3.here hexec rfl (hb hbytes d5) rfl ?_
    refine XS.aloadN X3.here hexec rfl (hb hbytes d6) rfl rfl ?_
    refine iconstV X3.here hexec rfl 0 (hb hbytes d7) (by decide) ?_
    refine XS.iloadN X3.here hexec rfl (hb hbytes d8) rfl ?_
    exact Steps.refl _)
  obtain ⟨v6, T6, X6, E6, g6⟩ := X3.callS hexec (Cmp5.law l b A s.heap.size B3 o 0 len) hown (wks W (staticW U16 115 Cmp5.yN)) (wk W Cmp5.tab) (W := 0) (Nat.le_of_ble_eq_true rfl) (Nat.le_of_ble_eq_true rfl) (Nat.le_refl _) (by show 0 + len + 0 ≤ len; omega) (g := (mkF m 9 #[.val (.ref b), .val (.int (Int32.ofNat o)), .val (.int (Int32.ofNat len)), .val (.ref s.heap.size), .unset, .unset] [.int (Int32.ofNat len), .int (Int32.ofNat 0), .ref s.heap.size, .int (Int32.ofNat o), .ref b])) rfl (by rw [hml]; rfl) c5 (argsL := [.ref b, .int (Int32.ofNat o), .ref s.heap.size, .int (Int32.ofNat 0), .int (Int32.ofNat len)]) (rest := []) rfl rfl (by show 2 * 0 + 0 ≤ _; decide) (hb hbytes d9) (⟨rfl, hA3, ba3, hne, l1, by rw [bs3]; simp, hp⟩)
  obtain ⟨rfl, B6, p6, f6⟩ := E6
  have c7 : Steps p.tables e below (s₁.setTop (entryFrame m #[.ref b, .int (Int32.ofNat o), .int (Int32.ofNat len)] 6)) (T6.setTop (mkF m 12 #[.val (.ref b), .val (.int (Int32.ofNat o)), .val (.int (Int32.ofNat len)), .val (.ref s.heap.size), .unset, .unset] [.int (Int32.ofNat len)])) := g6
  have c8 : Steps p.tables e below (s₁.setTop (entryFrame m #[.ref b, .int (Int32.ofNat o), .int (Int32.ofNat len)] 6)) (T6.setTop (mkF m 58 #[.val (.ref b), .val (.int (Int32.ofNat o)), .val (.int (Int32.ofNat len)), .val (.ref s.heap.size), .val (.int (Int32.ofNat len)), .unset] [.ref s.heap.size])) := c7.trans (by
    refine XS.istore X6.here hexec rfl (hb hbytes d12) rfl rfl ?_
    refine XS.iload X6.here hexec rfl (hb hbytes d14) rfl ?_
    refine XS.iloadN X6.here hexec rfl (hb hbytes d16) rfl ?_
    refine XS.icmpYes X6.here hexec rfl (pc0 := 17) rfl (hb hbytes d17) rfl (ii_eq_t rfl) (by decide) rfl ?_
    refine XS.aloadN X6.here hexec rfl (hb hbytes d57) rfl rfl ?_
    exact Steps.refl _)
  have X8 := X6.wide (L' := []) (cells' := 1) (slots' := len) (fun x hx hlt => by
    simp only [List.nil_append, copyLocs, List.mem_map, List.mem_range] at hx
    obtain ⟨i, -, rfl⟩ := hx
    exact absurd hlt (Nat.lt_irrefl _)) (Nat.le_refl _) (by omega)
  exact ⟨T6, some (.ref s.heap.size), _, _, _, X8, rfl, rfl, rfl, (fun h => by cases h), ⟨⟨rfl, B6, ba3.like (X3.warmed.alike.symm.trans X6.warmed.alike) p6.1 f6.1 f6.2.1 f6.2.2.1, f6.2.1.trans bv3, by rw [X6.warmed.alike.findClass, f6.1]; exact bf3, by rw [f6.2.2.1, bs3]; simp, fun j hj => by rw [f6.2.2.2 j, if_pos (by omega)]; rfl, kp3.put p6 (Nat.le_refl _)⟩, by rw [p6.2.2, bh3, hh0]; simp⟩, fun fs hl => c8.trans (X8.areturnOut hexec rfl hret rfl (hb hbytes d58) hl)⟩
end Cmp3
namespace CodL
def yN : MethodName := ⟨"java/lang/StringUTF16", "coderFromArrayLen", "([BI)B"⟩
abbrev yB : ByteArray := jdk_52_method_15_code
theorem d0 : decode yB 0 = .ok (.iload_n 1, 1) := by decide +kernel
theorem d1 : decode yB 1 = .ok (.aload_n 0, 1) := by decide +kernel
theorem d2 : decode yB 2 = .ok (.arraylength, 1) := by decide +kernel
theorem d3 : decode yB 3 = .ok (.isub, 1) := by decide +kernel
theorem d4 : decode yB 4 = .ok (.bipush 31, 2) := by decide +kernel
theorem d6 : decode yB 6 = .ok (.iushr, 1) := by decide +kernel
theorem d7 : decode yB 7 = .ok (.i2b, 1) := by decide +kernel
theorem d8 : decode yB 8 = .ok (.ireturn, 1) := by decide +kernel
def site : List Cond := []
def tab : Cond := tabOf yN yB 2 (some .byte) site
def P (d : Addr) (B : Cell) (args : Array Value) (s : State) : Prop := args = #[.ref d, .int (Int32.ofNat B.slots.size)] ∧ Arr .byte d B s
def E (r : Option Value) (s u : State) : Prop := XT.PureE (some (.int 0)) r s u
/-- an array as long as the number of chars: LATIN1 -/
theorem law (l : Launch) (d : Addr) (B : Cell) : Law l yN 2 2 0 0 yB 2 (some .byte) site (P d B) E [] 0 0 := by
  refine Law.of_walk (plainFor_of_name (by decide +kernel)) (by decide +kernel) (by decide +kernel) (by decide) (fun _ _ h => by rw [h.1]; rfl) (fun _ U U' hal hh h => ⟨h.1, h.2.mv hal hh⟩) (fun r U U' V V' h1 hal h2 h => XT.PureE.mv r U U' V V' h1 hal h2 h) ?_
  intro p e s m args below meth c s₁ X0 hexec hbytes hml hret hlk hnm hown hh0 W hP
  obtain ⟨rfl, hB⟩ := hP
  have hB0 := hB.mv X0.warmed.alike hh0
  have c1 : Steps p.tables e below (s₁.setTop (entryFrame m #[.ref d, .int (Int32.ofNat B.slots.size)] 2)) (s₁.setTop (mkF m 0 #[.val (.ref d), .val (.int (Int32.ofNat B.slots.size))] [])) := entry rfl
  have c2 : Steps p.tables e below (s₁.setTop (entryFrame m #[.ref d, .int (Int32.ofNat B.slots.size)] 2)) (s₁.setTop (mkF m 2 #[.val (.ref d), .val (.int (Int32.ofNat B.slots.size))] [.ref d, .int (Int32.ofNat B.slots.size)])) := c1.trans (by
    refine XS.iloadN X0.here hexec rfl (hb hbytes d0) rfl ?_
    refine XS.aloadN X0.here hexec rfl (hb hbytes d1) rfl rfl ?_
    exact Steps.refl _)
  have c3 : Steps p.tables e below (s₁.setTop (entryFrame m #[.ref d, .int (Int32.ofNat B.slots.size)] 2)) (s₁.setTop (mkF m 8 #[.val (.ref d), .val (.int (Int32.ofNat B.slots.size))] [.int (lo8 (ushr (Int32.ofNat B.slots.size - Int32.ofNat B.slots.size) 31))])) := c2.trans (by
    refine X0.alen hexec hB0 rfl rfl (hb hbytes d2) ?_
    refine XS.isub X0.here hexec rfl (hb hbytes d3) rfl ?_
    refine bipushV X0.here hexec rfl 31 (hb hbytes d4) (by decide) ?_
    refine iushr X0.here hexec rfl (hb hbytes d6) rfl ?_
    refine i2b X0.here hexec rfl (hb hbytes d7) rfl ?_
    exact Steps.refl _)
  have e0 : lo8 (ushr (Int32.ofNat B.slots.size - Int32.ofNat B.slots.size) 31) = 0 := by rw [Int32.sub_self]; decide
  rw [e0] at c3
  exact ⟨s₁, some (.int 0), _, _, _, X0, rfl, rfl, rfl, (fun h => by cases h), ⟨rfl, hh0⟩, fun fs hl => c3.trans (X0.ireturnOut hexec hret rfl (Or.inr (Or.inr (Or.inl rfl))) (hb hbytes d8) hl)⟩
end CodL
/-- the String at a is Latin-1 over a new byte[] (the heap's one new cell): the low bytes of the len chars of A from o on; every cell but a is kept -/
def Got (a : Addr) (D : Cell) (fV fC : Field) (A : Cell) (o len : Nat) (r : Option Value) (s u : State) : Prop := r = none ∧ ∃ D' V : Cell, Blank "java/lang/String" a D' u ∧ Same D D' [fV.slot, fC.slot] ∧ D'.slots[fV.slot]? = some (.ref s.heap.size) ∧ D'.slots[fC.slot]? = some (.int 0) ∧ Arr .byte s.heap.size V u ∧ V.vm = .none ∧ u.vm.findClass "[B" = some V.cls ∧ V.slots.size = len ∧ (∀ j, j < len → V.slots[j]? = some (.int (lo8 (cv A (o + j))))) ∧ (∀ (y : Addr) (c : Cell), y ≠ a → s.heap[y]? = some c → u.heap[y]? = some c) ∧ u.heap.size = s.heap.size + 1
theorem Got.mv {a : Addr} {D A : Cell} {fV fC : Field} {o len : Nat} : ∀ r (U U' V V' : State), U'.heap = U.heap → V.vm.Alike V'.vm → V'.heap = V.heap → Got a D fV fC A o len r U V → Got a D fV fC A o len r U' V' :=
  fun r U U' V V' h1 hal h2 ⟨e0, D', X, a1, a2, a3, a4, a5, a6, a7, a8, a9, a10, a11⟩ => ⟨e0, D', X, a1.mv hal h2, a2, by rw [h1]; exact a3, a4, by rw [h1]; exact a5.mv hal h2, a6, by rw [hal.findClass]; exact a7, a8, a9, by rw [h1, h2]; exact a10, by rw [h1, h2]; exact a11⟩
namespace New4
def yN : MethodName := ⟨"java/lang/String", "<init>", "([CIILjava/lang/Void;)V"⟩
abbrev yB : ByteArray := jdk_42_method_149_code
theorem d0 : decode yB 0 = .ok (.aload_n 0, 1) := by decide +kernel
theorem d1 : decode yB 1 = .ok (.invokespecial 1, 3) := by decide +kernel
theorem d4 : decode yB 4 = .ok (.iload_n 3, 1) := by decide +kernel
theorem d5 : decode yB 5 = .ok (.ifCond (.ne) 22, 3) := by decide +kernel
theorem d27 : decode yB 27 = .ok (.getstatic 38, 3) := by decide +kernel
theorem d30 : decode yB 30 = .ok (.ifCond (.eq) 28, 3) := by decide +kernel
theorem d33 : decode yB 33 = .ok (.aload_n 1, 1) := by decide +kernel
theorem d34 : decode yB 34 = .ok (.iload_n 2, 1) := by decide +kernel
theorem d35 : decode yB 35 = .ok (.iload_n 3, 1) := by decide +kernel
theorem d36 : decode yB 36 = .ok (.invokestatic 177, 3) := by decide +kernel
theorem d39 : decode yB 39 = .ok (.astore 5, 2) := by decide +kernel
theorem d41 : decode yB 41 = .ok (.aload_n 0, 1) := by decide +kernel
theorem d42 : decode yB 42 = .ok (.aload 5, 2) := by decide +kernel
theorem d44 : decode yB 44 = .ok (.iload_n 3, 1) := by decide +kernel
theorem d45 : decode yB 45 = .ok (.invokestatic 47, 3) := by decide +kernel
theorem d48 : decode yB 48 = .ok (.putfield 15, 3) := by decide +kernel
theorem d51 : decode yB 51 = .ok (.aload_n 0, 1) := by decide +kernel
theorem d52 : decode yB 52 = .ok (.aload 5, 2) := by decide +kernel
theorem d54 : decode yB 54 = .ok (.putfield 9, 3) := by decide +kernel
theorem d57 : decode yB 57 = .ok (.return_, 1) := by decide +kernel
def site : List Cond := [.fieldLink "java/lang/String" 38 "java/lang/String" "COMPACT_STRINGS" "Z", Cmp3.tab, CodL.tab, .laysFinal "java/lang/String" "java/lang/String" "value" "[B", .fieldLink "java/lang/String" 9 "java/lang/String" "value" "[B", .laysFinal "java/lang/String" "java/lang/String" "coder" "B", .fieldLink "java/lang/String" 15 "java/lang/String" "coder" "B"] ++ objW "java/lang/String" 1 ++ staticW "java/lang/String" 177 Cmp3.yN ++ staticW "java/lang/String" 47 CodL.yN
def tab : Cond := tabOf yN yB 6 none site
def P (a : Addr) (D : Cell) (fV fC : Field) (b : Addr) (A : Cell) (z : Int32) (o len : Nat) (args : Array Value) (s : State) : Prop := args = #[.ref a, .ref b, .int (Int32.ofNat o), .int (Int32.ofNat len), .null] ∧ Blank "java/lang/String" a D s ∧ Found "java/lang/String" "value" "[B" fV s ∧ Found "java/lang/String" "coder" "B" fC s ∧ Ch b A s ∧ StaticIs s "java/lang/String" "COMPACT_STRINGS" "Z" (.int z) ∧ ¬ z = 0 ∧ 0 < len ∧ o + len ≤ A.slots.size ∧ len ≤ 536870912 ∧ ∀ i, i < len → ¬ 255 < cv A (o + i)
def E (a : Addr) (D : Cell) (fV fC : Field) (A : Cell) (o len : Nat) (r : Option Value) (s u : State) : Prop := Got a D fV fC A o len r s u
/-- len > 0, no char of the range above 255: a Latin-1 String of their low bytes -/
theorem law (l : Launch) (a : Addr) (D : Cell) (fV fC : Field) (b : Addr) (A : Cell) (z : Int32) (o len : Nat) : Law l yN 5 4 2 35 yB 6 none site (P a D fV fC b A z o len) (E a D fV fC A o len) [⟨a, fC.slot⟩, ⟨a, fV.slot⟩] 1 len := by
  refine Law.of_walk (plainFor_of_name (by decide +kernel)) (by decide +kernel) (by decide +kernel) (by decide) (fun _ _ h => by rw [h.1]; rfl) (fun _ U U' hal hh h => ⟨h.1, h.2.1.mv hal hh, h.2.2.1.al hal, h.2.2.2.1.al hal, h.2.2.2.2.1.mv hal hh, h.2.2.2.2.2.1.there hal hh, h.2.2.2.2.2.2⟩) (fun r U U' V V' h1 hal h2 h => Got.mv r U U' V V' h1 hal h2 h) ?_
  intro p e s m args below meth c s₁ X0 hexec hbytes hml hret hlk hnm hown hh0 W hP
  obtain ⟨rfl, hB, f1, f2, hA, s1, hz, l0, l1, l2, hp⟩ := hP
  have a31 := hA.1.2.2.2
  have c1 : Steps p.tables e below (s₁.setTop (entryFrame m #[.ref a, .ref b, .int (Int32.ofNat o), .int (Int32.ofNat len), .null] 6)) (s₁.setTop (mkF m 0 #[.val (.ref a), .val (.ref b), .val (.int (Int32.ofNat o)), .val (.int (Int32.ofNat len)), .val .null, .unset] [])) := entry rfl
  have c2 : Steps p.tables e below (s₁.setTop (entryFrame m #[.ref a, .ref b, .int (Int32.ofNat o), .int (Int32.ofNat len), .null] 6)) (s₁.setTop (mkF m 1 #[.val (.ref a), .val (.ref b), .val (.int (Int32.ofNat o)), .val (.int (Int32.ofNat len)), .val .null, .unset] [.ref a])) := c1.trans (by
    refine XS.aloadN X0.here hexec rfl (hb hbytes d0) rfl rfl ?_
    exact Steps.refl _)
  obtain ⟨T3, X3, q3, st3⟩ := X0.oinit hexec hown (wks W (objW "java/lang/String" 1)) (g := (mkF m 1 #[.val (.ref a), .val (.ref b), .val (.int (Int32.ofNat o)), .val (.int (Int32.ofNat len)), .val .null, .unset] [.ref a])) rfl (by rw [hml]; rfl) (rest := []) rfl (hb hbytes d1) (W := 0) (by show 2 * 0 + 0 ≤ _; decide) (Nat.le_of_ble_eq_true rfl) (Nat.le_of_ble_eq_true rfl)
  have hh3 := q3.trans hh0
  have c4 : Steps p.tables e below (s₁.setTop (entryFrame m #[.ref a, .ref b, .int (Int32.ofNat o), .int (Int32.ofNat len), .null] 6)) (T3.setTop (mkF m 27 #[.val (.ref a), .val (.ref b), .val (.int (Int32.ofNat o)), .val (.int (Int32.ofNat len)), .val .null, .unset] [])) := (c2.trans (st3 _ (Steps.refl _))).trans (by
    refine XS.iloadN X3.here hexec rfl (hb hbytes d4) rfl ?_
    refine XS.ifYes X3.here hexec rfl (pc0 := 5) rfl (hb hbytes d5) rfl (i0_ne_t (nz32 (by omega) l0)) (by decide) rfl ?_
    exact Steps.refl _)
  obtain ⟨T5, X5, q5, st5⟩ := X3.sget hexec hown (wk W (.fieldLink "java/lang/String" 38 "java/lang/String" "COMPACT_STRINGS" "Z")) s1 (fun _ _ h => by rw [hh3]; exact h) (g := (mkF m 27 #[.val (.ref a), .val (.ref b), .val (.int (Int32.ofNat o)), .val (.int (Int32.ofNat len)), .val .null, .unset] [])) rfl (hb hbytes d27)
  have hh5 := q5.trans hh3
  have c6 : Steps p.tables e below (s₁.setTop (entryFrame m #[.ref a, .ref b, .int (Int32.ofNat o), .int (Int32.ofNat len), .null] 6)) (T5.setTop (mkF m 30 #[.val (.ref a), .val (.ref b), .val (.int (Int32.ofNat o)), .val (.int (Int32.ofNat len)), .val .null, .unset] [.int z])) := c4.trans (st5 _ (Steps.refl _))
  have c7 : Steps p.tables e below (s₁.setTop (entryFrame m #[.ref a, .ref b, .int (Int32.ofNat o), .int (Int32.ofNat len), .null] 6)) (T5.setTop (mkF m 36 #[.val (.ref a), .val (.ref b), .val (.int (Int32.ofNat o)), .val (.int (Int32.ofNat len)), .val .null, .unset] [.int (Int32.ofNat len), .int (Int32.ofNat o), .ref b])) := c6.trans (by
    refine XS.ifNo X5.here hexec rfl (hb hbytes d30) rfl (i0_eq_f hz) ?_
    refine XS.aloadN X5.here hexec rfl (hb hbytes d33) rfl rfl ?_
    refine XS.iloadN X5.here hexec rfl (hb hbytes d34) rfl ?_
    refine XS.iloadN X5.here hexec rfl (hb hbytes d35) rfl ?_
    exact Steps.refl _)
  obtain ⟨v8, T8, X8, E8, g8⟩ := X5.callS hexec (Cmp3.law l b A o len) hown (wks W (staticW "java/lang/String" 177 Cmp3.yN)) (wk W Cmp3.tab) (W := 0) (Nat.le_of_ble_eq_true rfl) (Nat.le_of_ble_eq_true rfl) (Nat.le_refl _) (by show 0 + len ≤ len; omega) (g := (mkF m 36 #[.val (.ref a), .val (.ref b), .val (.int (Int32.ofNat o)), .val (.int (Int32.ofNat len)), .val .null, .unset] [.int (Int32.ofNat len), .int (Int32.ofNat o), .ref b])) rfl (by rw [hml]; rfl) c7 (argsL := [.ref b, .int (Int32.ofNat o), .int (Int32.ofNat len)]) (rest := []) rfl rfl (by show 2 * 0 + 0 ≤ _; decide) (hb hbytes d36) (⟨rfl, hA.mv X5.warmed.alike hh5, l1, l2, hp⟩)
  obtain ⟨e8, z8⟩ := E8
  obtain ⟨rfl, N, n1, n2, n3, n4, n5, n6⟩ := NewArr.mv _ T5 s _ _ hh5.symm (Vm.Alike.refl _) rfl e8
  rw [hh5] at z8
  have hB1 := hB.keep X8.warmed.alike (n6 _ _ hB.1)
  have hne : s.heap.size ≠ a := (Nat.ne_of_lt (Array.getElem?_eq_some_iff.mp hB.1).1).symm
  have c9 : Steps p.tables e below (s₁.setTop (entryFrame m #[.ref a, .ref b, .int (Int32.ofNat o), .int (Int32.ofNat len), .null] 6)) (T8.setTop (mkF m 39 #[.val (.ref a), .val (.ref b), .val (.int (Int32.ofNat o)), .val (.int (Int32.ofNat len)), .val .null, .unset] [.ref s.heap.size])) := g8
  have c10 : Steps p.tables e below (s₁.setTop (entryFrame m #[.ref a, .ref b, .int (Int32.ofNat o), .int (Int32.ofNat len), .null] 6)) (T8.setTop (mkF m 45 #[.val (.ref a), .val (.ref b), .val (.int (Int32.ofNat o)), .val (.int (Int32.ofNat len)), .val .null, .val (.ref s.heap.size)] [.int (Int32.ofNat N.slots.size), .ref s.heap.size, .ref a])) := by
    have hc : Steps p.tables e below (s₁.setTop (entryFrame m #[.ref a, .ref b, .int (Int32.ofNat o), .int (Int32.ofNat len), .null] 6)) (T8.setTop (mkF m 45 #[.val (.ref a), .val (.ref b), .val (.int (Int32.ofNat o)), .val (.int (Int32.ofNat len)), .val .null, .val (.ref s.heap.size)] [.int (Int32.ofNat len), .ref s.heap.size, .ref a])) := c9.trans (by
      refine XS.astore X8.here hexec rfl (hb hbytes d39) rfl rfl rfl ?_
      refine XS.aloadN X8.here hexec rfl (hb hbytes d41) rfl rfl ?_
      refine XS.aload X8.here hexec rfl (hb hbytes d42) rfl rfl ?_
      refine XS.iloadN X8.here hexec rfl (hb hbytes d44) rfl ?_
      exact Steps.refl _)
    rw [n4]; exact hc
  obtain ⟨v11, T11, X11, E11, g11⟩ := X8.callS hexec (CodL.law l s.heap.size N) hown (wks W (staticW "java/lang/String" 47 CodL.yN)) (wk W CodL.tab) (W := 1) (Nat.le_of_ble_eq_true rfl) (Nat.le_of_ble_eq_true rfl) (Nat.le_refl _) (by show 0 + len + 0 ≤ len; omega) (g := (mkF m 45 #[.val (.ref a), .val (.ref b), .val (.int (Int32.ofNat o)), .val (.int (Int32.ofNat len)), .val .null, .val (.ref s.heap.size)] [.int (Int32.ofNat N.slots.size), .ref s.heap.size, .ref a])) rfl (by rw [hml]; rfl) c10 (argsL := [.ref s.heap.size, .int (Int32.ofNat N.slots.size)]) (rest := [.ref a]) rfl rfl (by show 2 * 0 + (1 + 0) ≤ _; decide) (hb hbytes d45) (⟨rfl, n1⟩)
  obtain ⟨rfl, q11⟩ := E11
  have hB11 := hB1.mv (X8.warmed.alike.symm.trans X11.warmed.alike) q11
  have c12 : Steps p.tables e below (s₁.setTop (entryFrame m #[.ref a, .ref b, .int (Int32.ofNat o), .int (Int32.ofNat len), .null] 6)) (T11.setTop (mkF m 48 #[.val (.ref a), .val (.ref b), .val (.int (Int32.ofNat o)), .val (.int (Int32.ofNat len)), .val .null, .val (.ref s.heap.size)] [.int 0, .ref a])) := g11
  obtain ⟨T13, X13, p13, bl13, sl13, st13⟩ := X11.finit hexec hown (wk W (.fieldLink "java/lang/String" 15 "java/lang/String" "coder" "B")) (Or.inr ⟨_, (wk W (.laysFinal "java/lang/String" "java/lang/String" "coder" "B"))⟩) (Or.inl ⟨rfl, hnm⟩) f2 (Or.inl rfl) hB11 (t := .byte) (by decide +kernel) rfl (g := (mkF m 48 #[.val (.ref a), .val (.ref b), .val (.int (Int32.ofNat o)), .val (.int (Int32.ofNat len)), .val .null, .val (.ref s.heap.size)] [.int 0, .ref a])) rfl (rest := []) rfl (hb hbytes d48)
  have c14 : Steps p.tables e below (s₁.setTop (entryFrame m #[.ref a, .ref b, .int (Int32.ofNat o), .int (Int32.ofNat len), .null] 6)) (T13.setTop (mkF m 54 #[.val (.ref a), .val (.ref b), .val (.int (Int32.ofNat o)), .val (.int (Int32.ofNat len)), .val .null, .val (.ref s.heap.size)] [.ref s.heap.size, .ref a])) := (c12.trans (st13 _ (Steps.refl _))).trans (by
    refine XS.aloadN X13.here hexec rfl (hb hbytes d51) rfl rfl ?_
    refine XS.aload X13.here hexec rfl (hb hbytes d52) rfl rfl ?_
    exact Steps.refl _)
  obtain ⟨T15, X15, p15, bl15, sl15, st15⟩ := X13.finit hexec hown (wk W (.fieldLink "java/lang/String" 9 "java/lang/String" "value" "[B")) (Or.inr ⟨_, (wk W (.laysFinal "java/lang/String" "java/lang/String" "value" "[B"))⟩) (Or.inl ⟨rfl, hnm⟩) f1 (Or.inl rfl) bl13 (t := (.array .byte)) (by decide +kernel) rfl (g := (mkF m 54 #[.val (.ref a), .val (.ref b), .val (.int (Int32.ofNat o)), .val (.int (Int32.ofNat len)), .val .null, .val (.ref s.heap.size)] [.ref s.heap.size, .ref a])) rfl (rest := []) rfl (hb hbytes d54)
  have c16 : Steps p.tables e below (s₁.setTop (entryFrame m #[.ref a, .ref b, .int (Int32.ofNat o), .int (Int32.ofNat len), .null] 6)) (T15.setTop (mkF m 57 #[.val (.ref a), .val (.ref b), .val (.int (Int32.ofNat o)), .val (.int (Int32.ofNat len)), .val .null, .val (.ref s.heap.size)] [])) := c14.trans (st15 _ (Steps.refl _))
  have ap := apart (Or.inr ⟨_, (wk W (.laysFinal "java/lang/String" "java/lang/String" "value" "[B"))⟩) (Or.inr ⟨_, (wk W (.laysFinal "java/lang/String" "java/lang/String" "coder" "B"))⟩) f1 f2 (t₁ := .array .byte) (t₂ := .byte) (by decide +kernel) (by decide +kernel) (by decide)
  have al := X8.warmed.alike.symm.trans X15.warmed.alike
  have n7 : T11.heap[s.heap.size]? = some N := by rw [q11]; exact n1.1
  exact ⟨T15, none, _, _, _, X15, by simp, rfl, by omega, (fun _ => rfl), ⟨rfl, _, N, bl15, ((Same.refl D _).set _ (by simp)).set _ (by simp), sl15, (Cell.slots_setSlot_ne _ ap).trans sl13, n1.keep al (p15.other hne (p13.other hne n7)), n2, by rw [al.findClass]; exact n3, n4, n5, fun y c h1 h2 => p15.other h1 (p13.other h1 (by rw [q11]; exact n6 y c h2)), by rw [p15.2.2, p13.2.2, q11]; exact z8⟩, fun fs hl => c16.trans (X15.returnOut hexec hret (hb hbytes d57) hl)⟩
end New4
namespace New1
def yN : MethodName := ⟨"java/lang/String", "<init>", "([C)V"⟩
abbrev yB : ByteArray := jdk_42_method_3_code
theorem d0 : decode yB 0 = .ok (.aload_n 0, 1) := by decide +kernel
theorem d1 : decode yB 1 = .ok (.aload_n 1, 1) := by decide +kernel
theorem d2 : decode yB 2 = .ok (.iconst 0, 1) := by decide +kernel
theorem d3 : decode yB 3 = .ok (.aload_n 1, 1) := by decide +kernel
theorem d4 : decode yB 4 = .ok (.arraylength, 1) := by decide +kernel
theorem d5 : decode yB 5 = .ok (.aconst_null, 1) := by decide +kernel
theorem d6 : decode yB 6 = .ok (.invokespecial 27, 3) := by decide +kernel
theorem d9 : decode yB 9 = .ok (.return_, 1) := by decide +kernel
def site : List Cond := [New4.tab] ++ initW "java/lang/String" 27 New4.yN
def tab : Cond := tabOf yN yB 2 none site
def P (a : Addr) (D : Cell) (fV fC : Field) (b : Addr) (A : Cell) (z : Int32) (args : Array Value) (s : State) : Prop := args = #[.ref a, .ref b] ∧ Blank "java/lang/String" a D s ∧ Found "java/lang/String" "value" "[B" fV s ∧ Found "java/lang/String" "coder" "B" fC s ∧ Ch b A s ∧ StaticIs s "java/lang/String" "COMPACT_STRINGS" "Z" (.int z) ∧ ¬ z = 0 ∧ 0 < A.slots.size ∧ A.slots.size ≤ 536870912 ∧ ∀ i, i < A.slots.size → ¬ 255 < cv A i
def E (a : Addr) (D : Cell) (fV fC : Field) (A : Cell) (r : Option Value) (s u : State) : Prop := Got a D fV fC A 0 A.slots.size r s u
/-- new String(chars), not empty, no char above 255: a Latin-1 String of their low bytes -/
theorem law (l : Launch) (a : Addr) (D : Cell) (fV fC : Field) (b : Addr) (A : Cell) (z : Int32) : Law l yN 2 1 3 52 yB 2 none site (P a D fV fC b A z) (E a D fV fC A) [⟨a, fC.slot⟩, ⟨a, fV.slot⟩] 1 A.slots.size := by
  refine Law.of_walk (plainFor_of_name (by decide +kernel)) (by decide +kernel) (by decide +kernel) (by decide) (fun _ _ h => by rw [h.1]; rfl) (fun _ U U' hal hh h => ⟨h.1, h.2.1.mv hal hh, h.2.2.1.al hal, h.2.2.2.1.al hal, h.2.2.2.2.1.mv hal hh, h.2.2.2.2.2.1.there hal hh, h.2.2.2.2.2.2⟩) (fun r U U' V V' h1 hal h2 h => Got.mv r U U' V V' h1 hal h2 h) ?_
  intro p e s m args below meth c s₁ X0 hexec hbytes hml hret hlk hnm hown hh0 W hP
  obtain ⟨rfl, hB, f1, f2, hA, s1, hz, l0, l2, hp⟩ := hP
  have c1 : Steps p.tables e below (s₁.setTop (entryFrame m #[.ref a, .ref b] 2)) (s₁.setTop (mkF m 0 #[.val (.ref a), .val (.ref b)] [])) := entry rfl
  have c2 : Steps p.tables e below (s₁.setTop (entryFrame m #[.ref a, .ref b] 2)) (s₁.setTop (mkF m 6 #[.val (.ref a), .val (.ref b)] [.null, .int (Int32.ofNat A.slots.size), .int 0, .ref b, .ref a])) := c1.trans (by
    refine XS.aloadN X0.here hexec rfl (hb hbytes d0) rfl rfl ?_
    refine XS.aloadN X0.here hexec rfl (hb hbytes d1) rfl rfl ?_
    refine iconstV X0.here hexec rfl 0 (hb hbytes d2) (by decide) ?_
    refine XS.aloadN X0.here hexec rfl (hb hbytes d3) rfl rfl ?_
    refine X0.alen hexec (hA.1.mv X0.warmed.alike hh0) rfl rfl (hb hbytes d4) ?_
    refine XS.aconstNull X0.here hexec rfl (hb hbytes d5) ?_
    exact Steps.refl _)
  obtain ⟨v3, T3, X3, E3, g3⟩ := X0.callN hexec (New4.law l a D fV fC b A z 0 A.slots.size) rfl hown (wks W (initW "java/lang/String" 27 New4.yN)) (W New4.tab (by simp only [site, List.mem_cons, List.mem_append, true_or, or_true])) (W := 0) (Nat.le_of_ble_eq_true rfl) (Nat.le_of_ble_eq_true rfl) (Nat.le_refl _) (by show 0 + A.slots.size ≤ A.slots.size; omega) (g := (mkF m 6 #[.val (.ref a), .val (.ref b)] [.null, .int (Int32.ofNat A.slots.size), .int (Int32.ofNat 0), .ref b, .ref a])) rfl (by rw [hml]; rfl) c2 (argsL := [.ref b, .int (Int32.ofNat 0), .int (Int32.ofNat A.slots.size), .null]) (rest := []) rfl rfl (by show 2 * 0 + 0 ≤ _; decide) (hb hbytes d6) (⟨rfl, hB.mv X0.warmed.alike hh0, f1.al X0.warmed.alike, f2.al X0.warmed.alike, hA.mv X0.warmed.alike hh0, s1.there X0.warmed.alike hh0, hz, l0, by omega, l2, fun i hi => by rw [Nat.zero_add]; exact hp i hi⟩)
  have e0 := Got.mv _ s₁ s _ _ hh0.symm (Vm.Alike.refl _) rfl E3
  obtain rfl := e0.1
  have c4 : Steps p.tables e below (s₁.setTop (entryFrame m #[.ref a, .ref b] 2)) (T3.setTop (mkF m 9 #[.val (.ref a), .val (.ref b)] [])) := g3
  exact ⟨T3, none, _, _, _, X3, by simp, rfl, by omega, (fun _ => rfl), e0, fun fs hl => c4.trans (X3.returnOut hexec hret (hb hbytes d9) hl)⟩
theorem pays {l : Launch} {R : Room} {p : Program} {e : Env} {below : List Frame} {s : State} {sargs : Array Value} {len W : Nat} (a : Addr) (D : Cell) (fV fC : Field) (b : Addr) (A : Cell) (z : Int32) (htab : tab.before sargs s = true) (hfr : 4 ≤ R.frames) (hlo : W + 65 ≤ R.locals) :
    Back l R p e below s sargs yN len W (fun A₁ a₁ => A₁.cells + 1 ≤ R.cells ∧ A₁.slots + A.slots.size ≤ R.slots ∧ P a D fV fC b A z a₁ A₁.U) (fun A₁ _ v₁ B₁ => E a D fV fC A v₁ A₁.U B₁.U ∧ B₁.locs = A₁.locs ++ [⟨a, fC.slot⟩, ⟨a, fV.slot⟩] ∧ B₁.cells = A₁.cells + 1 ∧ B₁.slots = A₁.slots + A.slots.size) :=
  (law l a D fV fC b A z).pays htab hfr (by omega)
end New1
/-- the byte, read back as charAt reads it, is the char -/
theorem lo8_mask {x : Int32} (h0 : ¬ x < 0) (h1 : ¬ 255 < x) : lo8 x &&& 255 = x := by
  have t : ∀ k : Fin 256, lo8 (Int32.ofNat k.val) &&& 255 = Int32.ofNat k.val := by decide +kernel
  rw [Int32.lt_iff_toInt_lt] at h0 h1
  have e0 : (0 : Int32).toInt = 0 := rfl
  have e1 : (255 : Int32).toInt = 255 := rfl
  obtain ⟨k, hk⟩ : ∃ k : Nat, x.toInt = k := ⟨x.toInt.toNat, by omega⟩
  have hx : x = Int32.ofNat k := Int32.toInt_inj.mp (by rw [hk, Int32.toInt_ofNat_small (by omega)])
  rw [hx]
  exact t ⟨k, by omega⟩
end StrChars
namespace StrChars.Road
open Jvm Sem ClassFile Op Lib Jvm.Stand Jvm.Free Jvm.Free.XT
open Jvm.Lib.Cold (StaticIs)
abbrev ST : String := "java/lang/String"
/-- every table word that New1's law asks, flat -/
abbrev words : List Jvm.Cond := [.code New1.yN New1.yB 2 none, .initialized ST, .methodLink ST 27 New4.yN, .instanceMethod New4.yN,
  .code New4.yN New4.yB 6 none, .fieldLink ST 38 ST "COMPACT_STRINGS" "Z", .laysFinal ST ST "value" "[B", .fieldLink ST 9 ST "value" "[B", .laysFinal ST ST "coder" "B", .fieldLink ST 15 ST "coder" "B",
  .methodLink ST 1 Lib.objectInit, .instanceMethod Lib.objectInit, .code Lib.objectInit ⟨#[0xb1]⟩ 1 none, .methodLink ST 177 Cmp3.yN, .static Cmp3.yN, .methodLink ST 47 CodL.yN, .static CodL.yN,
  .code Cmp3.yN Cmp3.yB 6 (some (.array .byte)), .initialized U16, .arrayClass .byte, .methodLink U16 115 Cmp5.yN, .static Cmp5.yN, .code Cmp5.yN Cmp5.yB 7 (some .int), .code CodL.yN CodL.yB 2 (some .byte)]
theorem tab_of {a : Array Value} {s : State} (h : ∀ w ∈ words, w.before a s = true) : New1.tab.before a s = true := by
  have h5 : Cmp5.tab.before a s = true := unparts (wk h (.code Cmp5.yN Cmp5.yB 7 (some .int))) (wks h (.initialized Cmp5.yN.cls :: Cmp5.site))
  have hc : CodL.tab.before a s = true := unparts (wk h (.code CodL.yN CodL.yB 2 (some .byte))) (wks h (.initialized CodL.yN.cls :: CodL.site))
  have q5 : ∀ w ∈ Cmp5.tab :: words, w.before a s = true := fun w hw => (List.mem_cons.mp hw).elim (fun e => e ▸ h5) (h w)
  have h3 : Cmp3.tab.before a s = true := unparts (wk q5 (.code Cmp3.yN Cmp3.yB 6 (some (.array .byte)))) (wks q5 (.initialized Cmp3.yN.cls :: Cmp3.site))
  have q3 : ∀ w ∈ Cmp3.tab :: CodL.tab :: words, w.before a s = true := fun w hw => (List.mem_cons.mp hw).elim (fun e => e ▸ h3) fun hw => (List.mem_cons.mp hw).elim (fun e => e ▸ hc) (h w)
  have h4 : New4.tab.before a s = true := unparts (wk q3 (.code New4.yN New4.yB 6 none)) (wks q3 (.initialized New4.yN.cls :: New4.site))
  have q4 : ∀ w ∈ New4.tab :: words, w.before a s = true := fun w hw => (List.mem_cons.mp hw).elim (fun e => e ▸ h4) (h w)
  exact unparts (wk q4 (.code New1.yN New1.yB 2 none)) (wks q4 (.initialized New1.yN.cls :: New1.site))
/-- the words ride from the start Z to the walk's own state -/
theorem moved {Z s : State} {a0 args : Array Value} (hZ : Z.Warmed39 s.vm) (hw : ∀ d ∈ words, d.before a0 Z = true) : ∀ d ∈ words, d.before args s = true := fun d hd => by
  have q := hw d hd
  have t : ∀ d ∈ words, d = .arrayClass .byte ∨ (d.onTables && d.keepsFace) = true := by decide +kernel
  rcases t d hd with rfl | t
  · exact RoadKit.mvA hZ q
  · exact RoadKit.mv hZ q t
/-- WHAT COMES BACK, over the tables of the start Z: h the heap at the call, h' behind it -/
def Q (Z : State) (x : Addr) (A : Cell) (h : Heap) (v : Option Value) (h' : Heap) (L : List Loc) : Prop := v = none ∧ (∀ y ∈ L, y.base = x) ∧ RoadKit.Keep h h' [x] ∧ h'.size = h.size + 1 ∧ RoadKit.Exa Z h' x ST ∧ RoadKit.Fld Z h' x ST "value" "[B" (.ref h.size) ∧ RoadKit.Fld Z h' x ST "coder" "B" (.int 0) ∧
  (∃ V : Cell, RoadKit.Arr Z h' h.size V .byte ∧ V.vm = .none ∧ Z.vm.findClass "[B" = some V.cls ∧ V.slots.size = A.slots.size ∧ ∀ j, j < A.slots.size → V.slots[j]? = some (.int (lo8 (cv A j)))) ∧
  ∀ (O n d : String) (w : Value), RoadKit.Fld Z h x O n d w → RoadKit.slotOf Z O n d ≠ RoadKit.slotOf Z ST "value" "[B" → RoadKit.slotOf Z O n d ≠ RoadKit.slotOf Z ST "coder" "B" → RoadKit.Fld Z h' x O n d w
/-- **new String(chars) AT A CALL, IN THE ROAD'S FORM**: for specialBack behind newO: x the fresh String, b the char[] with the cell A -/
theorem back {p : Program} {l : Launch} {e : Env} {R : Room} {s : State} {args : Array Value} {below : List Frame} {len W : Nat} {Z : State} {a0 : Array Value} {h : Heap} (hZ : Z.Warmed39 s.vm) (hw : ∀ d ∈ words, d.before a0 Z = true) {kI : Nat} (wi : (Jvm.Cond.instantiable ST kI).before a0 Z = true)
    {x b : Addr} {A : Cell} {z : Int32} {v0 c0 : Value} (E : RoadKit.Exa Z h x ST) (V : RoadKit.Fld Z h x ST "value" "[B" v0) (C : RoadKit.Fld Z h x ST "coder" "B" c0) (K : RoadKit.Arr Z h b A .char) (hty : Typed .char A) (S : RoadKit.Sta Z h ST "COMPACT_STRINGS" "Z" (.int z)) (hz : ¬ z = 0)
    (l0 : 0 < A.slots.size) (l2 : A.slots.size ≤ 536870912) (hp : ∀ i, i < A.slots.size → ¬ 255 < cv A i) (hfr : 4 ≤ R.frames) (hlo : W + 65 ≤ R.locals) :
    Back l R p e below s args New1.yN len W (fun P a => a = #[.ref x, .ref b] ∧ P.U.heap = h ∧ P.cells + 1 ≤ R.cells ∧ P.slots + A.slots.size ≤ R.slots)
      (fun P _ v B => ∃ L, Q Z x A h v B.U.heap L ∧ B.locs = P.locs ++ L ∧ B.cells = P.cells + 1 ∧ B.slots = P.slots + A.slots.size) := by
  intro m meth c P g ig mk a X hg hsize hdg hW hn hp'
  obtain ⟨rfl, rfl, r1, r2⟩ := hp'
  have al : Z.vm.Alike P.U.vm := hZ.alike.trans X.warmed.alike
  obtain ⟨D, cfV, kV, iV, fV, hD, gV, stV, knV, obV, asV, slV⟩ := id V
  obtain ⟨D', cfC, kC, iC, fC, hD', gC, stC, -, -, asC, slC⟩ := id C
  cases hD.symm.trans hD'
  obtain ⟨D2, kD, e1, e2, e3, e4, e5⟩ := id E
  cases hD.symm.trans e1
  obtain ⟨c2, k2, i1, i2, i3, -⟩ := Cond.instantiable_spec wi
  cases e2.symm.trans i1
  cases e3.symm.trans i2
  obtain ⟨kU, u1, u2⟩ := al.2.2 _ _ e3
  have hB : Blank ST x D P.U := ⟨hD, ⟨knV, fun q hq => by rw [hq] at obV; cases obV⟩, by rw [al.findClass]; exact e2, kU, u1, by rw [u2]; exact i3, by rw [u2]; exact e5 i3⟩
  have F1 : Found ST "value" "[B" fV P.U := ⟨SBG.found_only al ⟨cfV, kV, iV, gV⟩, stV⟩
  have F2 : Found ST "coder" "B" fC P.U := ⟨SBG.found_only al ⟨cfC, kC, iC, gC⟩, stC⟩
  have hA : Ch b A P.U := ⟨⟨K.1, State.isArrayOf_alike al K.2.1, K.2.2, by omega⟩, hty⟩
  have hS : StaticIs P.U ST "COMPACT_STRINGS" "Z" (.int z) := by
    obtain ⟨cfS, iS, kS, fS, st, cS, t1, t2, t3, t4, t5, t6, t7⟩ := S
    exact StaticIs.there (s := { Z with heap := P.U.heap }) ⟨cfS, iS, kS, fS, st, cS, t1, t2, t3, t4, t5, (fun q => by rw [q] at t6; cases t6), t7⟩ al rfl
  obtain ⟨v, B, X', ⟨⟨hv, E', V', q1, q2, q3, q4, q5, q6, q7, q8, q9, q10, q11⟩, hl, hc, hs⟩, st⟩ := New1.pays x D fV fC b A z (tab_of (moved hZ hw)) hfr hlo m meth c P g ig mk _ X hg hsize hdg hW hn ⟨r1, r2, rfl, hB, F1, F2, hA, hS, hz, l0, l2, hp⟩
  have al' : Z.vm.Alike B.U.vm := hZ.alike.trans X'.warmed.alike
  have hsz : E'.slots.size = D.slots.size := by
    obtain ⟨-, -, -, kB, w1, w2, w3⟩ := q1
    obtain ⟨kB', y1, y2⟩ := al'.2.2 _ _ e3
    rw [q2.2.1] at w1
    cases w1.symm.trans y1
    rw [w3, e5 i3, y2]
  refine ⟨v, B, X', ⟨_, ⟨hv, ?_, ⟨by omega, fun y cy hy hn' => q10 y cy (by simpa using hn') hy, fun y cy hy => ?_⟩, q11, ⟨E', _, q1.1, by rw [q2.2.1]; exact e2, by rw [q2.2.1]; exact e3, by rw [q2.1]; exact obV, fun _ => by rw [hsz]; exact e5 i3⟩,
    ⟨E', cfV, kV, iV, fV, q1.1, gV, stV, by rw [q2.1]; exact knV, by rw [q2.1]; exact obV, by rw [q2.2.1]; exact asV, q3⟩, ⟨E', cfC, kC, iC, fC, q1.1, gC, stC, by rw [q2.1]; exact knV, by rw [q2.1]; exact obV, by rw [q2.2.1]; exact asC, q4⟩,
    ⟨V', ⟨q5.1, State.isArrayOf_alike al'.symm q5.2.1, q5.2.2.1⟩, q6, by rw [← al'.findClass]; exact q7, q8, fun j hj => by have := q9 j hj; rwa [Nat.zero_add] at this⟩, fun O n d w F n1 n2 => ?_⟩, hl, hc, hs⟩, st⟩
  · intro y hy
    simp only [List.mem_cons, List.not_mem_nil, or_false] at hy
    rcases hy with rfl | rfl <;> rfl
  · by_cases q : y = x
    · subst q
      cases hD.symm.trans hy
      exact ⟨E', q1.1, q2.2.1, q2.1, hsz⟩
    · exact ⟨cy, q10 y cy q hy, rfl, rfl, rfl⟩
  · obtain ⟨D3, cf, k, i, f, g1, g2, g3, g4, g5, g6, g7⟩ := F
    cases hD.symm.trans g1
    simp only [RoadKit.slotOf, g2, gV, gC, Option.map_some, Option.getD_some] at n1 n2
    exact ⟨E', cf, k, i, f, q1.1, g2, g3, by rw [q2.1]; exact g4, by rw [q2.1]; exact g5, by rw [q2.2.1]; exact g6, by rw [q2.2.2 f.slot (by simp [n1, n2])]; exact g7⟩
end StrChars.Road
namespace StrChars.Road
open Jvm Sem ClassFile Op Lib Jvm.Stand Jvm.Free Jvm.Free.XT
/-- WHAT COMES BACK, the byte[] as a list of values -/
def QA (Z : State) (x : Addr) (zn : Int32) (cs : List Int32) (h : Heap) (v : Option Value) (h' : Heap) (L : List Loc) : Prop := v = none ∧ (∀ y ∈ L, y.base = x) ∧ RoadKit.Keep h h' [x] ∧ h'.size = h.size + 1 ∧ RoadKit.Exa Z h' x ST ∧ RoadKit.Fld Z h' x ST "value" "[B" (.ref h.size) ∧ RoadKit.Fld Z h' x ST "coder" "B" (.int 0) ∧
  (∃ kb, Z.vm.findClass "[B" = some kb ∧ RoadKit.Arv Z h' h.size kb .byte zn (cs.map fun c => .int (lo8 c)) (.int 0)) ∧
  ∀ (O n d : String) (w : Value), RoadKit.Fld Z h x O n d w → RoadKit.slotOf Z O n d ≠ RoadKit.slotOf Z ST "value" "[B" → RoadKit.slotOf Z O n d ≠ RoadKit.slotOf Z ST "coder" "B" → RoadKit.Fld Z h' x O n d w
/-- **new String(chars) AT A CALL, THE ARRAYS AS LISTS**: the char[] at b holds cs, not empty, no char above 255 -/
theorem backArv {p : Program} {l : Launch} {e : Env} {R : Room} {s : State} {args : Array Value} {below : List Frame} {len W : Nat} {Z : State} {a0 : Array Value} {h : Heap} (hZ : Z.Warmed39 s.vm) (hw : ∀ d ∈ words, d.before a0 Z = true) {kI : Nat} (wi : (Jvm.Cond.instantiable ST kI).before a0 Z = true)
    {x b : Addr} {k : ClassId} {zn z : Int32} {cs : List Int32} {dv v0 c0 : Value} (E : RoadKit.Exa Z h x ST) (V : RoadKit.Fld Z h x ST "value" "[B" v0) (C : RoadKit.Fld Z h x ST "coder" "B" c0) (K : RoadKit.Arv Z h b k .char zn (cs.map Value.int) dv) (S : RoadKit.Sta Z h ST "COMPACT_STRINGS" "Z" (.int z)) (hz : ¬ z = 0)
    (hlen : zn.toNatClampNeg = cs.length) (h0 : 0 < cs.length) (hbig : cs.length ≤ 536870912) (hall : ∀ c ∈ cs, ¬ 255 < c) (hfr : 4 ≤ R.frames) (hlo : W + 65 ≤ R.locals) :
    Back l R p e below s args New1.yN len W (fun P a => a = #[.ref x, .ref b] ∧ P.U.heap = h ∧ P.cells + 1 ≤ R.cells ∧ P.slots + cs.length ≤ R.slots)
      (fun P _ v B => ∃ L, QA Z x zn cs h v B.U.heap L ∧ B.locs = P.locs ++ L ∧ B.cells = P.cells + 1 ∧ B.slots = P.slots + cs.length) := by
  obtain ⟨A, K1, K2, K3, K4, K5, K6⟩ := K
  have e : A.slots.size = cs.length := K3.trans hlen
  have hat : ∀ (i : Nat) (hi : i < cs.length), A.slots[i]? = some (.int cs[i]) := fun i hi => by rw [K5 i (by omega)]; simp [List.getD_eq_getElem?_getD, hi]
  have hcv : ∀ (i : Nat) (hi : i < cs.length), cv A i = cs[i] := fun i hi => by unfold cv; rw [hat i hi]
  have hty : Typed .char A := fun i v hv => by
    have hi : i < A.slots.size := (Array.getElem?_eq_some_iff.mp hv).1
    have q := K5 i hi
    rw [hv] at q
    rw [Option.some.inj q]
    exact K6 i hi
  refine Back.mono (back hZ hw wi E V C K1 hty S hz (by omega) (by omega) (fun i hi => by rw [hcv i (by omega)]; exact hall _ (List.getElem_mem _)) hfr hlo) (fun P a hp => ⟨hp.1, hp.2.1, hp.2.2.1, by rw [e]; exact hp.2.2.2⟩) (fun P a v B hp hq => ?_)
  obtain ⟨L, ⟨q1, q2, q3, q4, q5, q6, q7, ⟨V', v1, v2, v3, v4, v5⟩, q9⟩, hl, hc, hs⟩ := hq
  refine ⟨L, ⟨q1, q2, q3, q4, q5, q6, q7, ⟨V'.cls, v3, V', v1, rfl, by rw [v4, e, hlen], K4, fun i hi => ?_, fun i hi => ?_⟩, q9⟩, hl, hc, by rw [hs, e]⟩
  · have hi' : i < cs.length := by omega
    rw [v5 i (by omega), hcv i hi']; simp [List.getD_eq_getElem?_getD, hi']
  · have hi' : i < cs.length := by omega
    simp only [List.getD_eq_getElem?_getD, List.getElem?_map, List.getElem?_eq_getElem hi', Option.map_some, Option.getD_some]
    exact fits_lo8 _
end StrChars.Road
namespace StrChars.Road
open Jvm Sem ClassFile Op Lib Jvm.Stand Jvm.Free Jvm.Free.XT
/-- WHAT COMES BACK, in the writer's own shape -/
def QV (Z : State) (x : Addr) (N : Int32) (bs : List Int32) (h : Heap) (n0 : Nat) (v : Option Value) (h' : Heap) (L : List Loc) : Prop := v = none ∧ RoadKit.Fr n0 L ∧ RoadKit.Keep h h' [x] ∧ RoadKit.Exa Z h' x ST ∧ RoadKit.Fld Z h' x ST "coder" "B" (.int 0) ∧
  ∃ (t : Addr) (kb : ClassId), n0 ≤ t ∧ h.size ≤ t ∧ ¬ t = x ∧ RoadKit.Fld Z h' x ST "value" "[B" (.ref t) ∧ RoadKit.Arv Z h' t kb .byte N (bs.map Value.int) (.int 0)
/-- **new String(chars) AT A CALL, FOR THE WRITER**: a char[] of n known ints, each 0 to 255 -/
theorem backV {p : Program} {l : Launch} {e : Env} {R : Room} {s : State} {args : Array Value} {below : List Frame} {len W : Nat} {Z : State} {a0 : Array Value} {h : Heap} (hZ : Z.Warmed39 s.vm) (hw : ∀ d ∈ words, d.before a0 Z = true) {kI : Nat} (wi : (Jvm.Cond.instantiable ST kI).before a0 Z = true)
    {x b : Addr} {kC : ClassId} {cs bs : List Int32} {d v0 c0 : Value} {z N : Int32} {n n0 : Nat} (hx0 : n0 ≤ x) (hh0 : n0 ≤ h.size) (E : RoadKit.Exa Z h x ST) (V : RoadKit.Fld Z h x ST "value" "[B" v0) (C : RoadKit.Fld Z h x ST "coder" "B" c0) (K : RoadKit.Arv Z h b kC .char N (cs.map Value.int) d) (S : RoadKit.Sta Z h ST "COMPACT_STRINGS" "Z" (.int z)) (hz : ¬ z = 0)
    (hn : cs.length = n) (hN : N = Int32.ofNat n) (l0 : 0 < n) (l2 : n ≤ 4000) (hp : ∀ c ∈ cs, ¬ c < 0 ∧ ¬ (255 : Int32) < c) (hb : bs = cs.map (fun c => c.toInt8.toInt32)) (hfr : 4 ≤ R.frames) (hlo : W + 65 ≤ R.locals) :
    Back l R p e below s args (⟨"java/lang/String", "<init>", "([C)V"⟩ : MethodName) len W (fun P a => a = #[.ref x, .ref b] ∧ P.U.heap = h ∧ P.cells + 1 ≤ R.cells ∧ P.slots + n ≤ R.slots)
      (fun P _ v B => ∃ L, QV Z x N bs h n0 v B.U.heap L ∧ B.locs = P.locs ++ L ∧ B.cells = P.cells + 1 ∧ B.slots = P.slots + n) := by
  subst hn hN hb
  refine Back.mono (backArv hZ hw wi E V C K S hz (n32 (by omega)) l0 (by omega) (fun c hc => (hp c hc).2) hfr hlo) (fun P a hp => hp) (fun P a v B hp hq => ?_)
  obtain ⟨L, ⟨q1, q2, q3, q4, q5, q6, q7, ⟨kb, v1, v2⟩, q9⟩, hl, hc, hs⟩ := hq
  exact ⟨L, ⟨q1, fun y hy => by rw [q2 y hy]; exact hx0, q3, q5, q7, h.size, kb, hh0, Nat.le_refl _, Nat.ne_of_gt E.lt, q6, by rw [List.map_map]; exact v2⟩, hl, hc, hs⟩
end StrChars.Road
namespace StrChars
open Jvm Sem ClassFile Op Lib Jvm.Stand Jvm.Free.XT Jvm.Free.ALB Jvm.Free.JM Jvm.Free
open Jvm.Lib.Cold (StaticIs)
def hi8 (x : Int32) : Int32 := lo8 (x >>> ((8 : Int32) &&& 31))
/-- what StringUTF16.getChar makes of two bytes -/
def pairCh (u v : Int32) : Int32 := (((u &&& 255) <<< ((0 : Int32) &&& 31)) ||| ((v &&& 255) <<< ((8 : Int32) &&& 31))).toUInt32.toUInt16.toUInt32.toInt32
theorem lo8_and (x : Int32) : (lo8 x &&& 255).toBitVec.toNat = x.toBitVec.toNat % 256 := by
  have h : (lo8 x).toBitVec = (x.toBitVec.signExtend 8).signExtend 32 := by rw [lo8, Int8.toBitVec_toInt32, Int32.toBitVec_toInt8]
  rw [Int32.toBitVec_and, BitVec.toNat_and, h]
  have e : ((x.toBitVec.signExtend 8).signExtend 32).toNat % 256 = x.toBitVec.toNat % 256 := by
    rw [BitVec.toNat_signExtend]
    have hlt := x.toBitVec.isLt
    simp only [BitVec.toNat_setWidth, BitVec.toNat_signExtend]
    split <;> split <;> omega
  rw [← e]
  exact Nat.and_two_pow_sub_one_eq_mod _ 8
theorem pair_says {c : Int32} (h0 : ¬ c < 0) (h1 : ¬ 65535 < c) : pairCh (lo8 c) (hi8 c) = c := by
  rw [Int32.lt_iff_toInt_lt] at h0 h1
  have e0 : (0 : Int32).toInt = 0 := rfl
  have e1 : (65535 : Int32).toInt = 65535 := rfl
  have hc : c.toInt = c.toBitVec.toNat := by
    have := c.toBitVec.isLt
    have e : c.toInt = c.toBitVec.toInt := rfl
    rw [e] at h0 h1
    rw [e]
    rw [BitVec.toInt_eq_toNat_cond] at h0 h1 ⊢
    split at h0 <;> split <;> omega
  have hn : c.toBitVec.toNat < 65536 := by omega
  have a1 := lo8_and c
  have a2 : (hi8 c &&& 255).toBitVec.toNat = c.toBitVec.toNat / 256 := by
    rw [hi8, lo8_and]
    have e : ((8 : Int32) &&& 31) = 8 := by decide
    rw [e, Int32.toBitVec_shiftRight]
    have e2 : ((8 : Int32).toBitVec.smod 32) = 8#32 := by decide
    rw [e2, BitVec.sshiftRight_eq', BitVec.toNat_sshiftRight_of_msb_false (by rw [BitVec.msb_eq_false_iff_two_mul_lt]; omega)]
    show c.toBitVec.toNat >>> 8 % 256 = _
    rw [Nat.shiftRight_eq_div_pow]
    omega
  unfold pairCh
  apply Int32.toBitVec_inj.mp
  apply BitVec.eq_of_toNat_eq
  have f0 : ((0 : Int32) &&& 31) = 0 := by decide
  have f8 : ((8 : Int32) &&& 31) = 8 := by decide
  rw [f0, f8]
  have g : (((lo8 c &&& 255) <<< (0 : Int32)) ||| ((hi8 c &&& 255) <<< (8 : Int32))).toBitVec.toNat = c.toBitVec.toNat := by
    rw [Int32.toBitVec_or, Int32.toBitVec_shiftLeft, Int32.toBitVec_shiftLeft]
    have s0 : ((0 : Int32).toBitVec.smod 32) = 0#32 := by decide
    have s8 : ((8 : Int32).toBitVec.smod 32) = 8#32 := by decide
    rw [s0, s8, BitVec.toNat_or]
    simp only [BitVec.shiftLeft_eq', BitVec.toNat_shiftLeft, a1, a2]
    show (c.toBitVec.toNat % 256) <<< 0 % 2 ^ 32 ||| (c.toBitVec.toNat / 256) <<< 8 % 2 ^ 32 = _
    rw [Nat.shiftLeft_zero, Nat.mod_eq_of_lt (show c.toBitVec.toNat % 256 < 2 ^ 32 by omega), Nat.mod_eq_of_lt (show (c.toBitVec.toNat / 256) <<< 8 < 2 ^ 32 by rw [Nat.shiftLeft_eq]; omega), Nat.or_comm, ← Nat.shiftLeft_add_eq_or_of_lt (by omega), Nat.shiftLeft_eq]
    omega
  show BitVec.toNat (((((lo8 c &&& 255) <<< (0 : Int32)) ||| ((hi8 c &&& 255) <<< (8 : Int32))).toBitVec.setWidth 16).setWidth 32) = _
  rw [BitVec.toNat_setWidth, BitVec.toNat_setWidth, g]
  omega
end StrChars
namespace StrChars
open Jvm Sem ClassFile Op Lib Jvm.Stand Jvm.Free.XT Jvm.Free.ALB Jvm.Free.JM Jvm.Free
open Jvm.Lib.Cold (StaticIs)
/-- the array's cell V codes the n chars f 0 .. f (n - 1) by the coder cd, as the JDK does: coder 1 just where some char is above 255 -/
def Cod (cd : Int32) (n : Nat) (f : Nat → Int32) (V : Cell) : Prop := (cd = 0 ∧ V.slots.size = n ∧ ∀ j, j < n → V.slots[j]? = some (.int (lo8 (f j))) ∧ ¬ 255 < f j) ∨ (cd = 1 ∧ V.slots.size = 2 * n ∧ (∀ j, j < n → V.slots[2 * j]? = some (.int (lo8 (f j))) ∧ V.slots[2 * j + 1]? = some (.int (hi8 (f j)))) ∧ ∃ j, j < n ∧ 255 < f j)
/-- **x is a String of the n chars f 0 .. f (n - 1)**, Latin-1 or UTF-16; its array at t has the cell V -/
def Txt (x t : Addr) (V : Cell) (cd : Int32) (n : Nat) (f : Nat → Int32) (U : State) : Prop := Exact "java/lang/String" x U ∧ Has x "java/lang/String" "value" "[B" (.ref t) U ∧ Has x "java/lang/String" "coder" "B" (.int cd) U ∧ XT.Arr .byte t V U ∧ Cod cd n f V ∧ ∀ j, j < n → ¬ f j < 0 ∧ ¬ 65535 < f j
theorem Txt.mv {x t : Addr} {V : Cell} {cd : Int32} {n : Nat} {f : Nat → Int32} {U U' : State} (h : Txt x t V cd n f U) (hal : U.vm.Alike U'.vm) (hh : U'.heap = U.heap) : Txt x t V cd n f U' := ⟨h.1.mv hal hh, h.2.1.mv hal hh, h.2.2.1.mv hal hh, h.2.2.2.1.mv hal hh, h.2.2.2.2⟩
end StrChars
namespace StrChars.Road
open Jvm Sem ClassFile Op Lib Jvm.Stand Jvm.Free Jvm.Free.XT
open Jvm.Lib.Cold (StaticIs)
theorem consq {a : Array Value} {s : State} {c : Jvm.Cond} {L : List Jvm.Cond} (h0 : c.before a s = true) (h : ∀ w ∈ L, w.before a s = true) : ∀ w ∈ c :: L, w.before a s = true := fun w hw => (List.mem_cons.mp hw).elim (fun e => e ▸ h0) (h w)
/-- the bytes of the chars cs, low before high -/
def wideBytes : List Int32 → List Value
  | [] => []
  | c :: cs => .int (lo8 c) :: .int (hi8 c) :: wideBytes cs
theorem wide_lo (d : Value) : ∀ (cs : List Int32) (j : Nat), j < cs.length → (wideBytes cs).getD (2 * j) d = .int (lo8 (cs.getD j 0))
  | [], j, h => absurd h (Nat.not_lt_zero j)
  | c :: cs, 0, _ => rfl
  | c :: cs, j + 1, h => by
    have q := wide_lo d cs j (by simpa using h)
    rw [show 2 * (j + 1) = 2 * j + 1 + 1 from by omega]
    simpa [wideBytes] using q
theorem wide_hi (d : Value) : ∀ (cs : List Int32) (j : Nat), j < cs.length → (wideBytes cs).getD (2 * j + 1) d = .int (hi8 (cs.getD j 0))
  | [], j, h => absurd h (Nat.not_lt_zero j)
  | c :: cs, 0, _ => rfl
  | c :: cs, j + 1, h => by
    have q := wide_hi d cs j (by simpa using h)
    rw [show 2 * (j + 1) + 1 = 2 * j + 1 + 1 + 1 from by omega]
    simpa [wideBytes] using q
theorem low_at (d : Value) (cs : List Int32) (j : Nat) (h : j < cs.length) : (cs.map fun c => Value.int (lo8 c)).getD j d = .int (lo8 (cs.getD j 0)) := by
  simp [List.getD_eq_getElem?_getD, h]
/-- an array of N2 bytes vs codes the chars cs by the coder cd -/
def CodA (cs : List Int32) (cd N2 : Int32) (vs : List Value) : Prop := (cd = 0 ∧ N2 = Int32.ofNat cs.length ∧ vs = (cs.map fun c => Value.int (lo8 c)) ∧ ∀ c ∈ cs, ¬ 255 < c) ∨ (cd = 1 ∧ N2 = Int32.ofNat (2 * cs.length) ∧ vs = wideBytes cs ∧ ∃ c ∈ cs, 255 < c)
theorem CodA.cod {cs : List Int32} {cd N2 : Int32} {vs : List Value} {V : Cell} (h : CodA cs cd N2 vs) (hn : 2 * cs.length < 2 ^ 31) (hs : V.slots.size = N2.toNatClampNeg) (hv : RoadKit.Has V vs (.int 0)) : Cod cd cs.length (fun j => cs.getD j 0) V := by
  rcases h with ⟨rfl, rfl, rfl, h⟩ | ⟨rfl, rfl, rfl, c, hc, hw⟩
  · rw [n32 (by omega)] at hs
    exact Or.inl ⟨rfl, hs, fun j hj => ⟨by rw [hv j (by omega), low_at _ _ _ hj], by
      have e : cs.getD j 0 = cs[j] := by simp [List.getD_eq_getElem?_getD, hj]
      show ¬ 255 < cs.getD j 0
      rw [e]; exact h _ (List.getElem_mem _)⟩⟩
  · rw [n32 (by omega)] at hs
    obtain ⟨j, hj, rfl⟩ := List.getElem_of_mem hc
    exact Or.inr ⟨rfl, hs, fun j hj => ⟨by rw [hv _ (by omega), wide_lo _ _ _ hj], by rw [hv _ (by omega), wide_hi _ _ _ hj]⟩, j, hj, by
      have e : cs.getD j 0 = cs[j] := by simp [List.getD_eq_getElem?_getD, hj]
      show 255 < cs.getD j 0
      rw [e]; exact hw⟩
/-- an object of exactly java/lang/String, its two fields found: as the laws ask it -/
theorem strObj {Z U : State} {a0 : Array Value} {kI : Nat} (wi : (Jvm.Cond.instantiable ST kI).before a0 Z = true) (al : Z.vm.Alike U.vm) {x : Addr} {v0 c0 : Value} (E : RoadKit.Exa Z U.heap x ST) (V : RoadKit.Fld Z U.heap x ST "value" "[B" v0) (C : RoadKit.Fld Z U.heap x ST "coder" "B" c0) :
    ∃ (D : Cell) (fV fC : Field), Blank ST x D U ∧ Found ST "value" "[B" fV U ∧ Found ST "coder" "B" fC U ∧ D.slots[fV.slot]? = some v0 ∧ D.slots[fC.slot]? = some c0 ∧ RoadKit.slotOf Z ST "value" "[B" = fV.slot ∧ RoadKit.slotOf Z ST "coder" "B" = fC.slot := by
  obtain ⟨D, cfV, kV, iV, fV, hD, gV, stV, knV, obV, asV, slV⟩ := V
  obtain ⟨D', cfC, kC, iC, fC, hD', gC, stC, -, -, asC, slC⟩ := C
  cases hD.symm.trans hD'
  obtain ⟨D2, kD, e1, e2, e3, e4, e5⟩ := E
  cases hD.symm.trans e1
  obtain ⟨c2, k2, i1, i2, i3, -⟩ := Cond.instantiable_spec wi
  cases e2.symm.trans i1
  cases e3.symm.trans i2
  obtain ⟨kU, u1, u2⟩ := al.2.2 _ _ e3
  exact ⟨D, fV, fC, ⟨hD, ⟨knV, fun q hq => by rw [hq] at obV; cases obV⟩, by rw [al.findClass]; exact e2, kU, u1, by rw [u2]; exact i3, by rw [u2]; exact e5 i3⟩, ⟨SBG.found_only al ⟨cfV, kV, iV, gV⟩, stV⟩, ⟨SBG.found_only al ⟨cfC, kC, iC, gC⟩, stC⟩, slV, slC, by simp [RoadKit.slotOf, gV], by simp [RoadKit.slotOf, gC]⟩
theorem sta_is {Z U : State} (al : Z.vm.Alike U.vm) {C n d : String} {v : Value} (S : RoadKit.Sta Z U.heap C n d v) : StaticIs U C n d v := by
  obtain ⟨cfS, iS, kS, fS, st, cS, t1, t2, t3, t4, t5, t6, t7⟩ := S
  exact StaticIs.there (s := { Z with heap := U.heap }) ⟨cfS, iS, kS, fS, st, cS, t1, t2, t3, t4, t5, (fun q => by rw [q] at t6; cases t6), t7⟩ al rfl
end StrChars.Road
namespace StrChars
open Jvm Sem ClassFile Op Lib Jvm.Stand Jvm.Free.XT Jvm.Free.ALB Jvm.Free.JM Jvm.Free
open Jvm.Lib.Cold (StaticIs)
/-- what place i of a byte[]'s cell holds -/
def yv (A : Cell) (i : Nat) : Int32 := match A.slots[i]? with | some (.int x) => x | _ => 0
theorem yv_get {a : Addr} {A : Cell} {U : State} (h : XT.Arr .byte a A U) (ht : Typed .byte A) {i : Nat} (hi : i < A.slots.size) : A.slots[i]? = some (.int (yv A i)) := by
  have e := Array.getElem?_eq_getElem hi
  have f := ht i _ e
  unfold yv; rw [e]
  generalize A.slots[i] = v at f
  cases v <;> simp [fits] at f ⊢
/-- the two arrays are equal, place for place -/
def EqC (A B : Cell) : Prop := A.slots.size = B.slots.size ∧ ∀ i, i < A.slots.size → yv A i = yv B i
/-- a boolean that says whether p -/
def Says01 (q : Prop) (r : Option Value) (s u : State) : Prop := ∃ v : Int32, r = some (.int v) ∧ u.heap = s.heap ∧ ((v = 1 ∧ q) ∨ (v = 0 ∧ ¬ q))
theorem Says01.mv {q : Prop} : ∀ r (U U' V V' : State), U'.heap = U.heap → V.vm.Alike V'.vm → V'.heap = V.heap → Says01 q r U V → Says01 q r U' V' :=
  fun r U U' V V' h1 _ h2 ⟨v, a, b, c⟩ => ⟨v, a, by rw [h1, h2]; exact b, c⟩
namespace LEq
def yN : MethodName := ⟨"java/lang/StringLatin1", "equals", "([B[B)Z"⟩
abbrev yB : ByteArray := jdk_43_method_13_code
theorem d0 : decode yB 0 = .ok (.aload_n 0, 1) := by decide +kernel
theorem d1 : decode yB 1 = .ok (.arraylength, 1) := by decide +kernel
theorem d2 : decode yB 2 = .ok (.aload_n 1, 1) := by decide +kernel
theorem d3 : decode yB 3 = .ok (.arraylength, 1) := by decide +kernel
theorem d4 : decode yB 4 = .ok (.if_icmp (.ne) 30, 3) := by decide +kernel
theorem d7 : decode yB 7 = .ok (.iconst 0, 1) := by decide +kernel
theorem d8 : decode yB 8 = .ok (.istore_n 2, 1) := by decide +kernel
theorem d9 : decode yB 9 = .ok (.iload_n 2, 1) := by decide +kernel
theorem d10 : decode yB 10 = .ok (.aload_n 0, 1) := by decide +kernel
theorem d11 : decode yB 11 = .ok (.arraylength, 1) := by decide +kernel
theorem d12 : decode yB 12 = .ok (.if_icmp (.ge) 20, 3) := by decide +kernel
theorem d15 : decode yB 15 = .ok (.aload_n 0, 1) := by decide +kernel
theorem d16 : decode yB 16 = .ok (.iload_n 2, 1) := by decide +kernel
theorem d17 : decode yB 17 = .ok (.baload, 1) := by decide +kernel
theorem d18 : decode yB 18 = .ok (.aload_n 1, 1) := by decide +kernel
theorem d19 : decode yB 19 = .ok (.iload_n 2, 1) := by decide +kernel
theorem d20 : decode yB 20 = .ok (.baload, 1) := by decide +kernel
theorem d21 : decode yB 21 = .ok (.if_icmp (.eq) 5, 3) := by decide +kernel
theorem d24 : decode yB 24 = .ok (.iconst 0, 1) := by decide +kernel
theorem d25 : decode yB 25 = .ok (.ireturn, 1) := by decide +kernel
theorem d26 : decode yB 26 = .ok (.iinc 2 1, 3) := by decide +kernel
theorem d29 : decode yB 29 = .ok (.goto (-20), 3) := by decide +kernel
theorem d32 : decode yB 32 = .ok (.iconst 1, 1) := by decide +kernel
theorem d33 : decode yB 33 = .ok (.ireturn, 1) := by decide +kernel
theorem d34 : decode yB 34 = .ok (.iconst 0, 1) := by decide +kernel
theorem d35 : decode yB 35 = .ok (.ireturn, 1) := by decide +kernel
def site : List Cond := []
def tab : Cond := tabOf yN yB 3 (some .boolean) site
def P (a : Addr) (A : Cell) (b : Addr) (B : Cell) (args : Array Value) (s : State) : Prop := args = #[.ref a, .ref b] ∧ XT.Arr .byte a A s ∧ Typed .byte A ∧ XT.Arr .byte b B s ∧ Typed .byte B
/-- whether two byte[] are equal, place for place -/
theorem law (l : Launch) (a : Addr) (A : Cell) (b : Addr) (B : Cell) : Law l yN 2 2 0 0 yB 3 (some .boolean) site (P a A b B) (Says01 (EqC A B)) [] 0 0 := by
  refine Law.of_walk (plainFor_of_name (by decide +kernel)) (by decide +kernel) (by decide +kernel) (by decide) (fun _ _ h => by rw [h.1]; rfl) (fun _ U U' hal hh h => ⟨h.1, h.2.1.mv hal hh, h.2.2.1, h.2.2.2.1.mv hal hh, h.2.2.2.2⟩) (fun r U U' V V' h1 hal h2 h => Says01.mv r U U' V V' h1 hal h2 h) ?_
  intro p e s m args below meth c s₁ X0 hexec hbytes hml hret hlk hnm hown hh0 W hP
  obtain ⟨rfl, hA, tA, hB, tB⟩ := hP
  have a31 := hA.2.2.2
  have b31 := hB.2.2.2
  have hA0 := hA.mv X0.warmed.alike hh0
  have hB0 := hB.mv X0.warmed.alike hh0
  have c1 : Steps p.tables e below (s₁.setTop (entryFrame m #[.ref a, .ref b] 3)) (s₁.setTop (mkF m 0 #[.val (.ref a), .val (.ref b), .unset] [])) := entry rfl
  have c2 : Steps p.tables e below (s₁.setTop (entryFrame m #[.ref a, .ref b] 3)) (s₁.setTop (mkF m 4 #[.val (.ref a), .val (.ref b), .unset] [.int (Int32.ofNat B.slots.size), .int (Int32.ofNat A.slots.size)])) := c1.trans (by
    refine XS.aloadN X0.here hexec rfl (hb hbytes d0) rfl rfl ?_
    refine X0.alen hexec hA0 rfl rfl (hb hbytes d1) ?_
    refine XS.aloadN X0.here hexec rfl (hb hbytes d2) rfl rfl ?_
    refine X0.alen hexec hB0 rfl rfl (hb hbytes d3) ?_
    exact Steps.refl _)
  by_cases hs : A.slots.size = B.slots.size
  · have c3 : Steps p.tables e below (s₁.setTop (entryFrame m #[.ref a, .ref b] 3)) (s₁.setTop (mkF m 9 #[.val (.ref a), .val (.ref b), .val (.int 0)] [])) := c2.trans (by
      refine XS.icmpNo X0.here hexec rfl (hb hbytes d4) rfl (ii_ne_f (by rw [hs])) ?_
      refine iconstV X0.here hexec rfl 0 (hb hbytes d7) (by decide) ?_
      refine XS.istoreN X0.here hexec rfl (hb hbytes d8) rfl rfl ?_
      exact Steps.refl _)
    have loop : ∀ (r i : Nat), i + r = A.slots.size → (∀ j, j < i → yv A j = yv B j) → Steps p.tables e below (s₁.setTop (entryFrame m #[.ref a, .ref b] 3)) (s₁.setTop (mkF m 9 #[.val (.ref a), .val (.ref b), .val (.int (Int32.ofNat i))] [])) → ∃ (pc : Nat) (Ls : Array Slot) (v : Int32), (pc = 25 ∨ pc = 33) ∧ ((v = 1 ∧ EqC A B) ∨ (v = 0 ∧ ¬ EqC A B)) ∧ Steps p.tables e below (s₁.setTop (entryFrame m #[.ref a, .ref b] 3)) (s₁.setTop (mkF m pc Ls [.int v])) := by
      intro r
      induction r with
      | zero =>
        intro i hi he cl
        exact ⟨33, _, 1, Or.inr rfl, Or.inl ⟨rfl, hs, fun j hj => he j (by omega)⟩, cl.trans (by
          refine XS.iloadN X0.here hexec rfl (hb hbytes d9) rfl ?_
          refine XS.aloadN X0.here hexec rfl (hb hbytes d10) rfl rfl ?_
          refine X0.alen hexec hA0 rfl rfl (hb hbytes d11) ?_
          refine XS.icmpYes X0.here hexec rfl (pc0 := 12) rfl (hb hbytes d12) rfl (ii_ge_t (nlt32 (by omega) (by omega))) (by decide) rfl ?_
          refine iconstV X0.here hexec rfl 1 (hb hbytes d32) (by decide) ?_
          exact Steps.refl _)⟩
      | succ r ih =>
        intro i hi he cl
        have c4 : Steps p.tables e below (s₁.setTop (entryFrame m #[.ref a, .ref b] 3)) (s₁.setTop (mkF m 21 #[.val (.ref a), .val (.ref b), .val (.int (Int32.ofNat i))] [.int (yv B i), .int (yv A i)])) := cl.trans (by
          refine XS.iloadN X0.here hexec rfl (hb hbytes d9) rfl ?_
          refine XS.aloadN X0.here hexec rfl (hb hbytes d10) rfl rfl ?_
          refine X0.alen hexec hA0 rfl rfl (hb hbytes d11) ?_
          refine XS.icmpNo X0.here hexec rfl (hb hbytes d12) rfl (ii_ge_f (lt32 (by omega) (by omega))) ?_
          refine XS.aloadN X0.here hexec rfl (hb hbytes d15) rfl rfl ?_
          refine XS.iloadN X0.here hexec rfl (hb hbytes d16) rfl ?_
          refine X0.aget hexec hA0 rfl (yv_get hA tA (i := i) (by omega)) rfl rfl (hb hbytes d17) ?_
          refine XS.aloadN X0.here hexec rfl (hb hbytes d18) rfl rfl ?_
          refine XS.iloadN X0.here hexec rfl (hb hbytes d19) rfl ?_
          refine X0.aget hexec hB0 rfl (yv_get hB tB (i := i) (by omega)) rfl rfl (hb hbytes d20) ?_
          exact Steps.refl _)
        by_cases hv : yv A i = yv B i
        · have c5 : Steps p.tables e below (s₁.setTop (entryFrame m #[.ref a, .ref b] 3)) (s₁.setTop (mkF m 9 #[.val (.ref a), .val (.ref b), .val (.int (Int32.ofNat i + 1))] [])) := c4.trans (by
            refine XS.icmpYes X0.here hexec rfl (pc0 := 21) rfl (hb hbytes d21) rfl (ii_eq_t hv) (by decide) rfl ?_
            refine iincV X0.here hexec rfl 1 (hb hbytes d26) (by decide) rfl rfl ?_
            refine XS.goto X0.here hexec rfl (pc0 := 29) rfl (hb hbytes d29) (by decide) rfl ?_
            exact Steps.refl _)
          rw [succ32] at c5
          exact ih (i + 1) (by omega) (fun j hj => by
            by_cases e : j = i
            · rw [e]; exact hv
            · exact he j (by omega)) c5
        · exact ⟨25, _, 0, Or.inl rfl, Or.inr ⟨rfl, fun q => hv (q.2 i (by omega))⟩, c4.trans (by
            refine XS.icmpNo X0.here hexec rfl (hb hbytes d21) rfl (ii_eq_f hv) ?_
            refine iconstV X0.here hexec rfl 0 (hb hbytes d24) (by decide) ?_
            exact Steps.refl _)⟩
    obtain ⟨pc, Ls, v, hpc, hv, cz⟩ := loop A.slots.size 0 (by omega) (fun j hj => absurd hj (Nat.not_lt_zero j)) c3
    have nv : narrow .boolean (.int v) = .int v := by rcases hv with ⟨rfl, -⟩ | ⟨rfl, -⟩ <;> rfl
    rcases hpc with rfl | rfl
    · exact ⟨s₁, some (.int v), _, _, _, X0, rfl, rfl, rfl, (fun h => by cases h), ⟨v, rfl, hh0, hv⟩, fun fs hl => cz.trans (X0.ireturnOut hexec hret nv (Or.inr (Or.inl rfl)) (hb hbytes d25) hl)⟩
    · exact ⟨s₁, some (.int v), _, _, _, X0, rfl, rfl, rfl, (fun h => by cases h), ⟨v, rfl, hh0, hv⟩, fun fs hl => cz.trans (X0.ireturnOut hexec hret nv (Or.inr (Or.inl rfl)) (hb hbytes d33) hl)⟩
  · have c3 : Steps p.tables e below (s₁.setTop (entryFrame m #[.ref a, .ref b] 3)) (s₁.setTop (mkF m 35 #[.val (.ref a), .val (.ref b), .unset] [.int 0])) := c2.trans (by
      refine XS.icmpYes X0.here hexec rfl (pc0 := 4) rfl (hb hbytes d4) rfl (ii_ne_t (ne32 a31 b31 hs)) (by decide) rfl ?_
      refine iconstV X0.here hexec rfl 0 (hb hbytes d34) (by decide) ?_
      exact Steps.refl _)
    exact ⟨s₁, some (.int 0), _, _, _, X0, rfl, rfl, rfl, (fun h => by cases h), ⟨0, rfl, hh0, Or.inr ⟨rfl, fun q => hs q.1⟩⟩, fun fs hl => c3.trans (X0.ireturnOut hexec hret rfl (Or.inr (Or.inl rfl)) (hb hbytes d35) hl)⟩
end LEq
theorem Cod.ty {cd : Int32} {n : Nat} {f : Nat → Int32} {V : Cell} (h : Cod cd n f V) : Typed .byte V := fun i v hv => by
  have hi : i < V.slots.size := (Array.getElem?_eq_some_iff.mp hv).1
  rcases h with ⟨-, k1, k2⟩ | ⟨-, k1, k2, -⟩
  · rw [(k2 i (by omega)).1] at hv; cases hv; exact fits_lo8 _
  · rcases Nat.mod_two_eq_zero_or_one i with e | e
    · obtain ⟨j, rfl⟩ : ∃ j, i = 2 * j := ⟨i / 2, by omega⟩
      rw [(k2 j (by omega)).1] at hv; cases hv; exact fits_lo8 _
    · obtain ⟨j, rfl⟩ : ∃ j, i = 2 * j + 1 := ⟨i / 2, by omega⟩
      rw [(k2 j (by omega)).2] at hv; cases hv; exact fits_lo8 _
/-- the same text -/
def SameT (n : Nat) (f : Nat → Int32) (k : Nat) (g : Nat → Int32) : Prop := n = k ∧ ∀ j, j < n → f j = g j
theorem lo8_inj {x y : Int32} (h0 : ¬ x < 0) (h1 : ¬ 255 < x) (k0 : ¬ y < 0) (k1 : ¬ 255 < y) (h : lo8 x = lo8 y) : x = y := by
  rw [← lo8_mask h0 h1, ← lo8_mask k0 k1, h]
/-- arrays coded by one coder are equal just where the texts are -/
theorem Cod.eqv {cd : Int32} {n k : Nat} {f g : Nat → Int32} {V V' : Cell} (h : Cod cd n f V) (h' : Cod cd k g V') (hf : ∀ j, j < n → ¬ f j < 0 ∧ ¬ 65535 < f j) (hg : ∀ j, j < k → ¬ g j < 0 ∧ ¬ 65535 < g j) : EqC V V' ↔ SameT n f k g := by
  have yvv : ∀ {W : Cell} {i : Nat} {x : Int32}, W.slots[i]? = some (.int x) → yv W i = x := fun q => by unfold yv; rw [q]
  rcases h with ⟨rfl, k1, k2⟩ | ⟨rfl, k1, k2, -⟩
  · rcases h' with ⟨-, m1, m2⟩ | ⟨e, -⟩
    · constructor
      · rintro ⟨e1, e2⟩
        refine ⟨by omega, fun j hj => ?_⟩
        have q := e2 j (by omega)
        rw [yvv (k2 j hj).1, yvv (m2 j (by omega)).1] at q
        exact lo8_inj (hf j hj).1 (k2 j hj).2 (hg j (by omega)).1 (m2 j (by omega)).2 q
      · rintro ⟨rfl, e2⟩
        refine ⟨by omega, fun j hj => ?_⟩
        rw [yvv (k2 j (by omega)).1, yvv (m2 j (by omega)).1, e2 j (by omega)]
    · exact absurd e (by decide)
  · rcases h' with ⟨e, -⟩ | ⟨-, m1, m2, -⟩
    · exact absurd e (by decide)
    · constructor
      · rintro ⟨e1, e2⟩
        refine ⟨by omega, fun j hj => ?_⟩
        have q1 := e2 (2 * j) (by omega)
        have q2 := e2 (2 * j + 1) (by omega)
        rw [yvv (k2 j hj).1, yvv (m2 j (by omega)).1] at q1
        rw [yvv (k2 j hj).2, yvv (m2 j (by omega)).2] at q2
        rw [← pair_says (hf j hj).1 (hf j hj).2, ← pair_says (hg j (by omega)).1 (hg j (by omega)).2, q1, q2]
      · rintro ⟨rfl, e2⟩
        refine ⟨by omega, fun i hi => ?_⟩
        rcases Nat.mod_two_eq_zero_or_one i with e | e
        · obtain ⟨j, rfl⟩ : ∃ j, i = 2 * j := ⟨i / 2, by omega⟩
          rw [yvv (k2 j (by omega)).1, yvv (m2 j (by omega)).1, e2 j (by omega)]
        · obtain ⟨j, rfl⟩ : ∃ j, i = 2 * j + 1 := ⟨i / 2, by omega⟩
          rw [yvv (k2 j (by omega)).2, yvv (m2 j (by omega)).2, e2 j (by omega)]
/-- two codings differ: so do the texts -/
theorem Cod.dif {cd cd' : Int32} {n k : Nat} {f g : Nat → Int32} {V V' : Cell} (h : Cod cd n f V) (h' : Cod cd' k g V') (hne : ¬ cd = cd') : ¬ SameT n f k g := by
  rintro ⟨rfl, e⟩
  rcases h with ⟨rfl, -, k2⟩ | ⟨rfl, -, -, j, hj, hw⟩
  · rcases h' with ⟨rfl, -⟩ | ⟨-, -, -, j, hj, hw⟩
    · exact hne rfl
    · exact (k2 j hj).2 (by rw [e j hj]; exact hw)
  · rcases h' with ⟨-, -, m2⟩ | ⟨rfl, -⟩
    · exact (m2 j hj).2 (by rw [← e j hj]; exact hw)
    · exact hne rfl
/-- an object of exactly C is an instance of C -/
theorem cinst {p : Program} {l : Launch} {e : Env} {R : Room} {s : State} {m : MethodId} {args : Array Value} {below : List Frame} {meth : Method} {c : Code} {T : State} {locs : List Loc} {cells slots : Nat} (X : Stand p l e R s m args below meth c T locs cells slots) (hexec : p.tables.exec = Jvm.exec) {own C : String} {index : Nat} (hown : s.vm.findClass own = some m.cls) (hlink : (Cond.classLink own index C).before args s = true) {a : Addr} (hE : Exact C a T)
    {g : JFrame} (hg : g.method = m) {rest : List Value} (hstack : g.stack = .ref a :: rest) (hdg : decode c.code g.pc = .ok (.instanceof index, 3)) :
    ∃ T', Stand p l e R s m args below meth c T' locs cells slots ∧ T'.heap = T.heap ∧ ∀ target, Steps p.tables e below (T'.setTop { g with pc := g.pc + 3, stack := .int 1 :: rest }) target → Steps p.tables e below (T.setTop g) target := by
  obtain ⟨cB, h1, D, h2, h3, h4⟩ := hE
  have h1' : s.vm.findClass C = some cB := by rw [← X.warmed.alike.findClass]; exact h1
  obtain ⟨vm', X', st⟩ := X.instanceofYes hexec hown hlink h2 h4 h1' (by rw [h3]; exact Jvm.Free.SB.assignable_self _ _) hg hstack hdg
  exact ⟨_, X', rfl, st⟩
theorem cself {p : Program} {l : Launch} {e : Env} {R : Room} {s : State} {m : MethodId} {args : Array Value} {below : List Frame} {meth : Method} {c : Code} {T : State} {locs : List Loc} {cells slots : Nat} (X : Stand p l e R s m args below meth c T locs cells slots) (hexec : p.tables.exec = Jvm.exec) {own C : String} {index : Nat} (hown : s.vm.findClass own = some m.cls) (hlink : (Cond.classLink own index C).before args s = true) {a : Addr} (hE : Exact C a T)
    {g : JFrame} (hg : g.method = m) {rest : List Value} (hstack : g.stack = .ref a :: rest) (hdg : decode c.code g.pc = .ok (.checkcast index, 3)) :
    ∃ T', Stand p l e R s m args below meth c T' locs cells slots ∧ T'.heap = T.heap ∧ ∀ target, Steps p.tables e below (T'.setTop { g with pc := g.pc + 3, stack := .ref a :: rest }) target → Steps p.tables e below (T.setTop g) target := by
  obtain ⟨cB, h1, D, h2, h3, h4⟩ := hE
  have h1' : s.vm.findClass C = some cB := by rw [← X.warmed.alike.findClass]; exact h1
  obtain ⟨vm', X', st⟩ := X.checkcastYes hexec hown hlink h2 h4 h1' (by rw [h3]; exact Jvm.Free.SB.assignable_self _ _) hg hstack hdg
  exact ⟨_, X', rfl, fun t h => st t (by rw [← hstack] at h; exact h)⟩
namespace SEq
def yN : MethodName := ⟨"java/lang/String", "equals", "(Ljava/lang/Object;)Z"⟩
abbrev yB : ByteArray := jdk_42_method_66_code
theorem d0 : decode yB 0 = .ok (.aload_n 0, 1) := by decide +kernel
theorem d1 : decode yB 1 = .ok (.aload_n 1, 1) := by decide +kernel
theorem d2 : decode yB 2 = .ok (.if_acmp (.ne) 5, 3) := by decide +kernel
theorem d5 : decode yB 5 = .ok (.iconst 1, 1) := by decide +kernel
theorem d6 : decode yB 6 = .ok (.ireturn, 1) := by decide +kernel
theorem d7 : decode yB 7 = .ok (.aload_n 1, 1) := by decide +kernel
theorem d8 : decode yB 8 = .ok (.instanceof 10, 3) := by decide +kernel
theorem d11 : decode yB 11 = .ok (.ifCond (.eq) 43, 3) := by decide +kernel
theorem d14 : decode yB 14 = .ok (.aload_n 1, 1) := by decide +kernel
theorem d15 : decode yB 15 = .ok (.checkcast 10, 3) := by decide +kernel
theorem d18 : decode yB 18 = .ok (.astore_n 2, 1) := by decide +kernel
theorem d19 : decode yB 19 = .ok (.getstatic 38, 3) := by decide +kernel
theorem d22 : decode yB 22 = .ok (.ifCond (.eq) 14, 3) := by decide +kernel
theorem d25 : decode yB 25 = .ok (.aload_n 0, 1) := by decide +kernel
theorem d26 : decode yB 26 = .ok (.getfield 15, 3) := by decide +kernel
theorem d29 : decode yB 29 = .ok (.aload_n 2, 1) := by decide +kernel
theorem d30 : decode yB 30 = .ok (.getfield 15, 3) := by decide +kernel
theorem d33 : decode yB 33 = .ok (.if_icmp (.ne) 21, 3) := by decide +kernel
theorem d36 : decode yB 36 = .ok (.aload_n 0, 1) := by decide +kernel
theorem d37 : decode yB 37 = .ok (.getfield 9, 3) := by decide +kernel
theorem d40 : decode yB 40 = .ok (.aload_n 2, 1) := by decide +kernel
theorem d41 : decode yB 41 = .ok (.getfield 9, 3) := by decide +kernel
theorem d44 : decode yB 44 = .ok (.invokestatic 541, 3) := by decide +kernel
theorem d47 : decode yB 47 = .ok (.ifCond (.eq) 7, 3) := by decide +kernel
theorem d50 : decode yB 50 = .ok (.iconst 1, 1) := by decide +kernel
theorem d51 : decode yB 51 = .ok (.goto 4, 3) := by decide +kernel
theorem d54 : decode yB 54 = .ok (.iconst 0, 1) := by decide +kernel
theorem d55 : decode yB 55 = .ok (.ireturn, 1) := by decide +kernel
def site : List Cond := [.classLink "java/lang/String" 10 "java/lang/String", .fieldLink "java/lang/String" 38 "java/lang/String" "COMPACT_STRINGS" "Z", .fieldLink "java/lang/String" 15 "java/lang/String" "coder" "B", .fieldLink "java/lang/String" 9 "java/lang/String" "value" "[B", LEq.tab] ++ staticW "java/lang/String" 541 LEq.yN
def tab : Cond := tabOf yN yB 3 (some .boolean) site
def P (x t : Addr) (V : Cell) (cd : Int32) (n : Nat) (f : Nat → Int32) (y t' : Addr) (V' : Cell) (cd' : Int32) (k : Nat) (g : Nat → Int32) (z : Int32) (args : Array Value) (s : State) : Prop := args = #[.ref x, .ref y] ∧ Txt x t V cd n f s ∧ Txt y t' V' cd' k g s ∧ StaticIs s "java/lang/String" "COMPACT_STRINGS" "Z" (.int z) ∧ ¬ z = 0
/-- equals(Object) of two Strings: whether the texts are the same -/
theorem law (l : Launch) (x t : Addr) (V : Cell) (cd : Int32) (n : Nat) (f : Nat → Int32) (y t' : Addr) (V' : Cell) (cd' : Int32) (k : Nat) (g : Nat → Int32) (z : Int32) : Law l yN 2 1 1 14 yB 3 (some .boolean) site (P x t V cd n f y t' V' cd' k g z) (Says01 (SameT n f k g)) [] 0 0 := by
  refine Law.of_walk (plainFor_of_name (by decide +kernel)) (by decide +kernel) (by decide +kernel) (by decide) (fun _ _ h => by rw [h.1]; rfl) (fun _ U U' hal hh h => ⟨h.1, h.2.1.mv hal hh, h.2.2.1.mv hal hh, h.2.2.2.1.there hal hh, h.2.2.2.2⟩) (fun r U U' V V' h1 hal h2 h => Says01.mv r U U' V V' h1 hal h2 h) ?_
  intro p e s m args below meth c s₁ X0 hexec hbytes hml hret hlk hnm hown hh0 W hP
  obtain ⟨rfl, hx, hy, s1, hz⟩ := hP
  have c1 : Steps p.tables e below (s₁.setTop (entryFrame m #[.ref x, .ref y] 3)) (s₁.setTop (mkF m 2 #[.val (.ref x), .val (.ref y), .unset] [.ref y, .ref x])) := Steps.trans (entry rfl) (by
    show Steps p.tables e below (s₁.setTop (mkF m 0 #[.val (.ref x), .val (.ref y), .unset] [])) _
    refine XS.aloadN X0.here hexec rfl (hb hbytes d0) rfl rfl ?_
    refine XS.aloadN X0.here hexec rfl (hb hbytes d1) rfl rfl ?_
    exact Steps.refl _)
  by_cases hxy : x = y
  · have c2 : Steps p.tables e below (s₁.setTop (entryFrame m #[.ref x, .ref y] 3)) (s₁.setTop (mkF m 6 #[.val (.ref x), .val (.ref y), .unset] [.int 1])) := c1.trans (by
      refine acmpNo X0.here hexec rfl (hb hbytes d2) rfl rfl rfl (by simp [acmp, hxy]) ?_
      refine iconstV X0.here hexec rfl 1 (hb hbytes d5) (by decide) ?_
      exact Steps.refl _)
    subst hxy
    have ec : cd = cd' := by
      obtain ⟨D, fd, a1, a2, a3⟩ := hx.2.2.1
      obtain ⟨D', fd', b1, b2, b3⟩ := hy.2.2.1
      cases a1.symm.trans b1
      obtain ⟨q1, q2, q3, q4⟩ := a2.1
      obtain ⟨r1, r2, r3, r4⟩ := b2.1
      cases q4.symm.trans r4
      cases a3.symm.trans b3; rfl
    have et : t = t' := by
      obtain ⟨D, fd, a1, a2, a3⟩ := hx.2.1
      obtain ⟨D', fd', b1, b2, b3⟩ := hy.2.1
      cases a1.symm.trans b1
      obtain ⟨q1, q2, q3, q4⟩ := a2.1
      obtain ⟨r1, r2, r3, r4⟩ := b2.1
      cases q4.symm.trans r4
      cases a3.symm.trans b3; rfl
    subst ec et
    have ev : V = V' := by cases hx.2.2.2.1.1.symm.trans hy.2.2.2.1.1; rfl
    subst ev
    have hs : SameT n f k g := (Cod.eqv hx.2.2.2.2.1 hy.2.2.2.2.1 hx.2.2.2.2.2 hy.2.2.2.2.2).mp ⟨rfl, fun _ _ => rfl⟩
    exact ⟨s₁, some (.int 1), _, _, _, X0, rfl, rfl, rfl, (fun h => by cases h), ⟨1, rfl, hh0, Or.inl ⟨rfl, hs⟩⟩, fun fs hl => c2.trans (X0.ireturnOut hexec hret rfl (Or.inr (Or.inl rfl)) (hb hbytes d6) hl)⟩
  · have c2 : Steps p.tables e below (s₁.setTop (entryFrame m #[.ref x, .ref y] 3)) (s₁.setTop (mkF m 8 #[.val (.ref x), .val (.ref y), .unset] [.ref y])) := c1.trans (by
      refine acmpYes X0.here hexec rfl (pc0 := 2) rfl (hb hbytes d2) rfl rfl rfl (by simp [acmp, hxy]) (by decide) rfl ?_
      refine XS.aloadN X0.here hexec rfl (hb hbytes d7) rfl rfl ?_
      exact Steps.refl _)
    obtain ⟨T3, X3, q3, st3⟩ := cinst X0 hexec hown (wk W (.classLink "java/lang/String" 10 "java/lang/String")) (hy.mv X0.warmed.alike hh0).1 (g := (mkF m 8 #[.val (.ref x), .val (.ref y), .unset] [.ref y])) rfl (rest := []) rfl (hb hbytes d8)
    have hh3 := q3.trans hh0
    have c4 : Steps p.tables e below (s₁.setTop (entryFrame m #[.ref x, .ref y] 3)) (T3.setTop (mkF m 15 #[.val (.ref x), .val (.ref y), .unset] [.ref y])) := (c2.trans (st3 _ (Steps.refl _))).trans (by
      refine XS.ifNo X3.here hexec rfl (hb hbytes d11) rfl (i0_eq_f (by decide)) ?_
      refine XS.aloadN X3.here hexec rfl (hb hbytes d14) rfl rfl ?_
      exact Steps.refl _)
    obtain ⟨T5, X5, q5, st5⟩ := cself X3 hexec hown (wk W (.classLink "java/lang/String" 10 "java/lang/String")) (hy.mv X3.warmed.alike hh3).1 (g := (mkF m 15 #[.val (.ref x), .val (.ref y), .unset] [.ref y])) rfl (rest := []) rfl (hb hbytes d15)
    have hh5 := q5.trans hh3
    have c6 : Steps p.tables e below (s₁.setTop (entryFrame m #[.ref x, .ref y] 3)) (T5.setTop (mkF m 19 #[.val (.ref x), .val (.ref y), .val (.ref y)] [])) := (c4.trans (st5 _ (Steps.refl _))).trans (by
      refine XS.astoreN X5.here hexec rfl (hb hbytes d18) rfl rfl rfl ?_
      exact Steps.refl _)
    obtain ⟨T7, X7, q7, st7⟩ := X5.sget hexec hown (wk W (.fieldLink "java/lang/String" 38 "java/lang/String" "COMPACT_STRINGS" "Z")) s1 (fun _ _ h => by rw [hh5]; exact h) (g := (mkF m 19 #[.val (.ref x), .val (.ref y), .val (.ref y)] [])) rfl (hb hbytes d19)
    have hh7 := q7.trans hh5
    have c8 : Steps p.tables e below (s₁.setTop (entryFrame m #[.ref x, .ref y] 3)) (T7.setTop (mkF m 26 #[.val (.ref x), .val (.ref y), .val (.ref y)] [.ref x])) := (c6.trans (st7 _ (Steps.refl _))).trans (by
      refine XS.ifNo X7.here hexec rfl (hb hbytes d22) rfl (i0_eq_f hz) ?_
      refine XS.aloadN X7.here hexec rfl (hb hbytes d25) rfl rfl ?_
      exact Steps.refl _)
    obtain ⟨T9, X9, q9, st9⟩ := X7.hget hexec hown (wk W (.fieldLink "java/lang/String" 15 "java/lang/String" "coder" "B")) (hx.mv X7.warmed.alike hh7).2.2.1 (g := (mkF m 26 #[.val (.ref x), .val (.ref y), .val (.ref y)] [.ref x])) rfl (rest := []) rfl (hb hbytes d26)
    have hh9 := q9.trans hh7
    have c10 : Steps p.tables e below (s₁.setTop (entryFrame m #[.ref x, .ref y] 3)) (T9.setTop (mkF m 30 #[.val (.ref x), .val (.ref y), .val (.ref y)] [.ref y, .int cd])) := (c8.trans (st9 _ (Steps.refl _))).trans (by
      refine XS.aloadN X9.here hexec rfl (hb hbytes d29) rfl rfl ?_
      exact Steps.refl _)
    obtain ⟨T11, X11, q11, st11⟩ := X9.hget hexec hown (wk W (.fieldLink "java/lang/String" 15 "java/lang/String" "coder" "B")) (hy.mv X9.warmed.alike hh9).2.2.1 (g := (mkF m 30 #[.val (.ref x), .val (.ref y), .val (.ref y)] [.ref y, .int cd])) rfl (rest := [.int cd]) rfl (hb hbytes d30)
    have hh11 := q11.trans hh9
    have c12 : Steps p.tables e below (s₁.setTop (entryFrame m #[.ref x, .ref y] 3)) (T11.setTop (mkF m 33 #[.val (.ref x), .val (.ref y), .val (.ref y)] [.int cd', .int cd])) := c10.trans (st11 _ (Steps.refl _))
    by_cases hcd : cd = cd'
    · subst hcd
      have c13 : Steps p.tables e below (s₁.setTop (entryFrame m #[.ref x, .ref y] 3)) (T11.setTop (mkF m 37 #[.val (.ref x), .val (.ref y), .val (.ref y)] [.ref x])) := c12.trans (by
        refine XS.icmpNo X11.here hexec rfl (hb hbytes d33) rfl (ii_ne_f rfl) ?_
        refine XS.aloadN X11.here hexec rfl (hb hbytes d36) rfl rfl ?_
        exact Steps.refl _)
      obtain ⟨T14, X14, q14, st14⟩ := X11.hget hexec hown (wk W (.fieldLink "java/lang/String" 9 "java/lang/String" "value" "[B")) (hx.mv X11.warmed.alike hh11).2.1 (g := (mkF m 37 #[.val (.ref x), .val (.ref y), .val (.ref y)] [.ref x])) rfl (rest := []) rfl (hb hbytes d37)
      have hh14 := q14.trans hh11
      have c15 : Steps p.tables e below (s₁.setTop (entryFrame m #[.ref x, .ref y] 3)) (T14.setTop (mkF m 41 #[.val (.ref x), .val (.ref y), .val (.ref y)] [.ref y, .ref t])) := (c13.trans (st14 _ (Steps.refl _))).trans (by
        refine XS.aloadN X14.here hexec rfl (hb hbytes d40) rfl rfl ?_
        exact Steps.refl _)
      obtain ⟨T16, X16, q16, st16⟩ := X14.hget hexec hown (wk W (.fieldLink "java/lang/String" 9 "java/lang/String" "value" "[B")) (hy.mv X14.warmed.alike hh14).2.1 (g := (mkF m 41 #[.val (.ref x), .val (.ref y), .val (.ref y)] [.ref y, .ref t])) rfl (rest := [.ref t]) rfl (hb hbytes d41)
      have hh16 := q16.trans hh14
      have c17 : Steps p.tables e below (s₁.setTop (entryFrame m #[.ref x, .ref y] 3)) (T16.setTop (mkF m 44 #[.val (.ref x), .val (.ref y), .val (.ref y)] [.ref t', .ref t])) := c15.trans (st16 _ (Steps.refl _))
      obtain ⟨v18, T18, X18, E18, g18⟩ := X16.callS hexec (LEq.law l t V t' V') hown (wks W (staticW "java/lang/String" 541 LEq.yN)) (wk W LEq.tab) (W := 0) (Nat.le_of_ble_eq_true rfl) (Nat.le_of_ble_eq_true rfl) (Nat.le_refl _) (Nat.le_refl _) (g := (mkF m 44 #[.val (.ref x), .val (.ref y), .val (.ref y)] [.ref t', .ref t])) rfl (by rw [hml]; rfl) c17 (argsL := [.ref t, .ref t']) (rest := []) rfl rfl (by show 2 * 0 + 0 ≤ _; decide) (hb hbytes d44) (⟨rfl, hx.2.2.2.1.mv X16.warmed.alike hh16, hx.2.2.2.2.1.ty, hy.2.2.2.1.mv X16.warmed.alike hh16, hy.2.2.2.2.1.ty⟩)
      obtain ⟨v, rfl, q18, hv⟩ := E18
      have iff := Cod.eqv hx.2.2.2.2.1 hy.2.2.2.2.1 hx.2.2.2.2.2 hy.2.2.2.2.2
      rcases hv with ⟨rfl, he⟩ | ⟨rfl, he⟩
      · have c19 : Steps p.tables e below (s₁.setTop (entryFrame m #[.ref x, .ref y] 3)) (T18.setTop (mkF m 55 #[.val (.ref x), .val (.ref y), .val (.ref y)] [.int 1])) := Steps.trans g18 (by
          refine XS.ifNo X18.here hexec rfl (hb hbytes d47) rfl (i0_eq_f (by decide)) ?_
          refine iconstV X18.here hexec rfl 1 (hb hbytes d50) (by decide) ?_
          refine XS.goto X18.here hexec rfl (pc0 := 51) rfl (hb hbytes d51) (by decide) rfl ?_
          exact Steps.refl _)
        exact ⟨T18, some (.int 1), _, _, _, X18, rfl, rfl, rfl, (fun h => by cases h), ⟨1, rfl, q18.trans hh16, Or.inl ⟨rfl, iff.mp he⟩⟩, fun fs hl => c19.trans (X18.ireturnOut hexec hret rfl (Or.inr (Or.inl rfl)) (hb hbytes d55) hl)⟩
      · have c19 : Steps p.tables e below (s₁.setTop (entryFrame m #[.ref x, .ref y] 3)) (T18.setTop (mkF m 55 #[.val (.ref x), .val (.ref y), .val (.ref y)] [.int 0])) := Steps.trans g18 (by
          refine XS.ifYes X18.here hexec rfl (pc0 := 47) rfl (hb hbytes d47) rfl (i0_eq_t rfl) (by decide) rfl ?_
          refine iconstV X18.here hexec rfl 0 (hb hbytes d54) (by decide) ?_
          exact Steps.refl _)
        exact ⟨T18, some (.int 0), _, _, _, X18, rfl, rfl, rfl, (fun h => by cases h), ⟨0, rfl, q18.trans hh16, Or.inr ⟨rfl, fun q => he (iff.mpr q)⟩⟩, fun fs hl => c19.trans (X18.ireturnOut hexec hret rfl (Or.inr (Or.inl rfl)) (hb hbytes d55) hl)⟩
    · have c13 : Steps p.tables e below (s₁.setTop (entryFrame m #[.ref x, .ref y] 3)) (T11.setTop (mkF m 55 #[.val (.ref x), .val (.ref y), .val (.ref y)] [.int 0])) := c12.trans (by
        refine XS.icmpYes X11.here hexec rfl (pc0 := 33) rfl (hb hbytes d33) rfl (ii_ne_t hcd) (by decide) rfl ?_
        refine iconstV X11.here hexec rfl 0 (hb hbytes d54) (by decide) ?_
        exact Steps.refl _)
      exact ⟨T11, some (.int 0), _, _, _, X11, rfl, rfl, rfl, (fun h => by cases h), ⟨0, rfl, hh11, Or.inr ⟨rfl, Cod.dif hx.2.2.2.2.1 hy.2.2.2.2.1 hcd⟩⟩, fun fs hl => c13.trans (X11.ireturnOut hexec hret rfl (Or.inr (Or.inl rfl)) (hb hbytes d55) hl)⟩
theorem pays {l : Launch} {R : Room} {p : Program} {e : Env} {below : List Frame} {s : State} {sargs : Array Value} {len W : Nat} (x t : Addr) (V : Cell) (cd : Int32) (n : Nat) (f : Nat → Int32) (y t' : Addr) (V' : Cell) (cd' : Int32) (k : Nat) (g : Nat → Int32) (z : Int32) (htab : tab.before sargs s = true) (hfr : 2 ≤ R.frames) (hlo : W + 28 ≤ R.locals) :
    Back l R p e below s sargs yN len W (fun A₁ a₁ => A₁.cells + 0 ≤ R.cells ∧ A₁.slots + 0 ≤ R.slots ∧ P x t V cd n f y t' V' cd' k g z a₁ A₁.U) (fun A₁ _ v₁ B₁ => Says01 (SameT n f k g) v₁ A₁.U B₁.U ∧ B₁.locs = A₁.locs ++ [] ∧ B₁.cells = A₁.cells + 0 ∧ B₁.slots = A₁.slots + 0) :=
  (law l x t V cd n f y t' V' cd' k g z).pays htab hfr (by omega)
end SEq
end StrChars
namespace StrChars.Road
open Jvm Sem ClassFile Op Lib Jvm.Stand Jvm.Free Jvm.Free.XT
open Jvm.Lib.Cold (StaticIs)
/-- the words of String.equals(Object) -/
abbrev wordsEq : List Jvm.Cond := [.code SEq.yN SEq.yB 3 (some .boolean), .initialized ST, .classLink ST 10 ST, .fieldLink ST 38 ST "COMPACT_STRINGS" "Z", .fieldLink ST 15 ST "coder" "B", .fieldLink ST 9 ST "value" "[B", .methodLink ST 541 LEq.yN, .static LEq.yN, .code LEq.yN LEq.yB 3 (some .boolean), .initialized "java/lang/StringLatin1"]
theorem tabEq_of {a : Array Value} {s : State} (h : ∀ w ∈ wordsEq, w.before a s = true) : SEq.tab.before a s = true := by
  have hl : LEq.tab.before a s = true := unparts (wk h (.code LEq.yN LEq.yB 3 (some .boolean))) (wks h (.initialized LEq.yN.cls :: LEq.site))
  have q := consq hl h
  exact unparts (wk q (.code SEq.yN SEq.yB 3 (some .boolean))) (wks q (.initialized SEq.yN.cls :: SEq.site))
theorem movedEq {Z s : State} {a0 args : Array Value} (hZ : Z.Warmed39 s.vm) (hw : ∀ d ∈ wordsEq, d.before a0 Z = true) : ∀ d ∈ wordsEq, d.before args s = true := fun d hd => by
  have t : ∀ d ∈ wordsEq, (d.onTables && d.keepsFace) = true := by decide +kernel
  exact RoadKit.mv hZ (hw d hd) (t d hd)
/-- the road's facts of a String, as the laws ask it -/
theorem txt_of {Z U : State} {a0 : Array Value} {kI : Nat} (wi : (Jvm.Cond.instantiable ST kI).before a0 Z = true) (al : Z.vm.Alike U.vm) {x t : Addr} {kb : ClassId} {cs : List Int32} {cd N2 : Int32} {vs : List Value} (E : RoadKit.Exa Z U.heap x ST) (V : RoadKit.Fld Z U.heap x ST "value" "[B" (.ref t)) (C : RoadKit.Fld Z U.heap x ST "coder" "B" (.int cd)) (K : RoadKit.Arv Z U.heap t kb .byte N2 vs (.int 0)) (hc : CodA cs cd N2 vs) (hb : ∀ c ∈ cs, ¬ c < 0 ∧ ¬ (65535 : Int32) < c) (l2 : cs.length ≤ 4000) :
    ∃ A, Txt x t A cd cs.length (fun j => cs.getD j 0) U := by
  obtain ⟨A, K1, K2, K3, K4, K5, K6⟩ := K
  have hcod := hc.cod (by omega) K3 K5
  obtain ⟨D, fV, fC, hB, F1, F2, g1, g2, -, -⟩ := strObj wi al E V C
  exact ⟨A, ⟨_, hB.2.2.1, D, hB.1, rfl, by cases q : D.vm <;> first | rfl | exact absurd q (hB.2.1.2 _)⟩, Has.of hB F1 g1, Has.of hB F2 g2, ⟨K1.1, State.isArrayOf_alike al K1.2.1, K1.2.2, by rcases hcod with ⟨-, q, -⟩ | ⟨-, q, -⟩ <;> omega⟩, hcod, fun j hj => by
    have e : cs.getD j 0 = cs[j] := by simp [List.getD_eq_getElem?_getD, hj]
    show ¬ cs.getD j 0 < 0 ∧ ¬ 65535 < cs.getD j 0
    rw [e]; exact hb _ (List.getElem_mem _)⟩
theorem same_list (cs ds : List Int32) : SameT cs.length (fun j => cs.getD j 0) ds.length (fun j => ds.getD j 0) ↔ cs = ds := by
  constructor
  · rintro ⟨e, q⟩
    refine List.ext_getElem e fun j h1 h2 => ?_
    have := q j h1
    simpa [List.getD_eq_getElem?_getD, h1, h2] using this
  · rintro rfl
    exact ⟨rfl, fun _ _ => rfl⟩
/-- **equals(Object) OF TWO SUCH STRINGS**: 1 just where the chars are the same -/
theorem eqW {p : Program} {l : Launch} {e : Env} {R : Room} {s : State} {args : Array Value} {below : List Frame} {len W : Nat} {Z : State} {a0 : Array Value} {h : Heap} (hZ : Z.Warmed39 s.vm) (hw : ∀ d ∈ wordsEq, d.before a0 Z = true) {kI : Nat} (wi : (Jvm.Cond.instantiable ST kI).before a0 Z = true)
    {x t : Addr} {kb : ClassId} {cs : List Int32} {cd N2 : Int32} {vs : List Value} (E : RoadKit.Exa Z h x ST) (V : RoadKit.Fld Z h x ST "value" "[B" (.ref t)) (C : RoadKit.Fld Z h x ST "coder" "B" (.int cd)) (K : RoadKit.Arv Z h t kb .byte N2 vs (.int 0)) (hc : CodA cs cd N2 vs) (hb : ∀ c ∈ cs, ¬ c < 0 ∧ ¬ (65535 : Int32) < c) (l2 : cs.length ≤ 4000)
    {y t' : Addr} {kb' : ClassId} {ds : List Int32} {cd' N2' : Int32} {vs' : List Value} (E' : RoadKit.Exa Z h y ST) (V' : RoadKit.Fld Z h y ST "value" "[B" (.ref t')) (C' : RoadKit.Fld Z h y ST "coder" "B" (.int cd')) (K' : RoadKit.Arv Z h t' kb' .byte N2' vs' (.int 0)) (hc' : CodA ds cd' N2' vs') (hb' : ∀ c ∈ ds, ¬ c < 0 ∧ ¬ (65535 : Int32) < c) (l2' : ds.length ≤ 4000)
    {z : Int32} (S : RoadKit.Sta Z h ST "COMPACT_STRINGS" "Z" (.int z)) (hz : ¬ z = 0) (hfr : 2 ≤ R.frames) (hlo : W + 28 ≤ R.locals) :
    Back l R p e below s args (⟨"java/lang/String", "equals", "(Ljava/lang/Object;)Z"⟩ : MethodName) len W (fun P a => a = #[.ref x, .ref y] ∧ P.U.heap = h ∧ P.cells + 0 ≤ R.cells ∧ P.slots + 0 ≤ R.slots)
      (fun P _ v B => ∃ L, (((v = some (.int 1) ∧ cs = ds) ∨ (v = some (.int 0) ∧ ¬ cs = ds)) ∧ L = [] ∧ B.U.heap = h) ∧ B.locs = P.locs ++ L ∧ B.cells = P.cells + 0 ∧ B.slots = P.slots + 0) := by
  intro m meth c P g ig mk a X hg hsize hdg hW hn hp'
  obtain ⟨rfl, rfl, r1, r2⟩ := hp'
  have al : Z.vm.Alike P.U.vm := hZ.alike.trans X.warmed.alike
  obtain ⟨A, hx⟩ := txt_of wi al E V C K hc hb l2
  obtain ⟨A', hy⟩ := txt_of wi al E' V' C' K' hc' hb' l2'
  obtain ⟨v, B, X', ⟨⟨w, hv, hh, hq⟩, hl, hk, hs⟩, st⟩ := SEq.pays x t A cd cs.length (fun j => cs.getD j 0) y t' A' cd' ds.length (fun j => ds.getD j 0) z (tabEq_of (movedEq hZ hw)) hfr hlo m meth c P g ig mk _ X hg hsize hdg hW hn ⟨r1, r2, rfl, hx, hy, sta_is al S, hz⟩
  refine ⟨v, B, X', ⟨[], ⟨?_, rfl, hh⟩, hl, hk, hs⟩, st⟩
  rcases hq with ⟨rfl, q⟩ | ⟨rfl, q⟩
  · exact Or.inl ⟨hv, (same_list cs ds).mp q⟩
  · exact Or.inr ⟨hv, fun e => q ((same_list cs ds).mpr e)⟩
end StrChars.Road
end Jvm.Pilot.@@N@@
namespace Jvm.Pilot.@@N@@
open Jvm Jvm.ClassFile Sem Op Lib Jvm.Free Jvm.Stand Jvm.LawKit Jvm.RoadKit Bundle Jvm.Pilot.@@N@@.Jvm.D
/-- a String at a that spells cs, each sign 0 to 255 -/
def own_Str (Z : State) (h : Heap) (a : Addr) (cs : List Int32) : Prop := ∃ (t : Addr) (kb : ClassId) (N2 : Int32) (vs : List Value), Exa Z h a "java/lang/String" ∧ Fld Z h a "java/lang/String" "value" "[B" (.ref t) ∧ Fld Z h a "java/lang/String" "coder" "B" (.int 0) ∧ Arv Z h t kb .byte N2 vs (.int 0) ∧ StrChars.Road.CodA cs 0 N2 vs ∧ (∀ c ∈ cs, ¬ c < 0 ∧ ¬ (65535 : Int32) < c) ∧ cs.length ≤ 4000
theorem own_Str.ext {Z : State} {h h' : Heap} {a : Addr} {cs : List Int32} (F : own_Str Z h a cs) (E : Ext h h') : own_Str Z h' a cs := by
  obtain ⟨t, kb, N2, vs, h1, h2, h3, h4, r⟩ := F
  exact ⟨t, kb, N2, vs, h1.ext E, h2.ext E, h3.ext E, h4.ext E, r⟩
theorem own_Str.exa {Z : State} {h : Heap} {a : Addr} {cs : List Int32} (F : own_Str Z h a cs) : Exa Z h a "java/lang/String" := F.choose_spec.choose_spec.choose_spec.choose_spec.1
/-- new String, then its constructor: to the older heap it is an extension -/
theorem own_ext2 {h h1 h2 : Heap} {x : Addr} (E : Ext h h1) (K : Keep h1 h2 [x]) (hx : h.size ≤ x) : Ext h h2 :=
  ⟨Nat.le_trans E.1 K.1, fun y c q => K.2.1 y c (E.2 y c q) fun hm => by
    cases List.mem_singleton.mp hm
    exact absurd (Array.getElem?_eq_some_iff.mp q).1 (Nat.not_lt.mpr hx)⟩
theorem own_extK {h h1 : Heap} (K : Keep h h1 []) : Ext h h1 := ⟨K.1, fun y c q => K.2.1 y c q List.not_mem_nil⟩
theorem own_ext_trans {h h1 h2 : Heap} (E : Ext h h1) (F : Ext h1 h2) : Ext h h2 := ⟨Nat.le_trans E.1 F.1, fun y c q => F.2 y c (E.2 y c q)⟩
theorem own_ext_refl (h : Heap) : Ext h h := ⟨Nat.le_refl _, fun _ _ q => q⟩
/-- a String of the library's two laws -/
theorem own_Str.of {Z : State} {h : Heap} {a t : Addr} {kb : ClassId} {N2 : Int32} {vs : List Value} {cs : List Int32} (h1 : Exa Z h a "java/lang/String") (h2 : Fld Z h a "java/lang/String" "value" "[B" (.ref t)) (h3 : Fld Z h a "java/lang/String" "coder" "B" (.int 0)) (h4 : Arv Z h t kb .byte N2 vs (.int 0)) (e1 : N2 = Int32.ofNat cs.length) (e2 : vs = cs.map fun c => Value.int c.toInt8.toInt32) (hp : ∀ c ∈ cs, ¬ c < 0 ∧ ¬ (255 : Int32) < c) (hl : cs.length ≤ 4000) : own_Str Z h a cs :=
  ⟨t, kb, N2, vs, h1, h2, h3, h4, Or.inl ⟨rfl, e1, e2, fun c hc => (hp c hc).2⟩, fun c hc => ⟨(hp c hc).1, fun q => (hp c hc).2 (by
    rw [Int32.lt_iff_toInt_lt] at *
    have a1 : (255 : Int32).toInt = 255 := by decide
    have a2 : (65535 : Int32).toInt = 65535 := by decide
    omega)⟩, hl⟩
end Jvm.Pilot.@@N@@
namespace Jvm.Pilot.@@N@@
open Jvm Jvm.ClassFile Sem Op Lib Jvm.Free Jvm.Stand Jvm.LawKit Jvm.RoadKit Bundle Jvm.Pilot.@@N@@.Jvm.D
def own_eq (cs ds : List Int32) : Int32 := if cs = ds then 1 else 0
theorem own_eqv {cs ds : List Int32} {v : Option Value} (h : (v = some (.int 1) ∧ cs = ds) ∨ (v = some (.int 0) ∧ ¬ cs = ds)) : v = some (.int (own_eq cs ds)) := by
  rcases h with ⟨rfl, q⟩ | ⟨rfl, q⟩
  · rw [own_eq, if_pos q]
  · rw [own_eq, if_neg q]
theorem own_wS {Z : State} {a0 : Array Value} (hw : ∀ d ∈ tables_1, d.before a0 Z = true) : ∀ a ∈ Bundle.stringAtoms, a.before a0 Z = true := by
  intro a ha
  simp only [Bundle.stringAtoms, List.mem_cons, List.not_mem_nil, or_false] at ha
  rcases ha with rfl | rfl | rfl | rfl | rfl | rfl | rfl
  · exact (hw _ (List.mem_of_getElem? (i := 3) rfl))
  · exact (hw _ (List.mem_of_getElem? (i := 4) rfl))
  · exact (hw _ (List.mem_of_getElem? (i := 5) rfl))
  · exact (hw _ (List.mem_of_getElem? (i := 6) rfl))
  · exact (hw _ (List.mem_of_getElem? (i := 7) rfl))
  · exact (hw _ (List.mem_of_getElem? (i := 8) rfl))
  · exact (hw _ (List.mem_of_getElem? (i := 9) rfl))
theorem own_EW {Z : State} {a0 : Array Value} (hw : ∀ d ∈ tables_1, d.before a0 Z = true) : EW Z a0 consts_1 := (EW.cons (hw _ (List.mem_of_getElem? (i := 21) rfl)) (by decide) (EW.cons (hw _ (List.mem_of_getElem? (i := 57) rfl)) (by decide) (EW.cons (hw _ (List.mem_of_getElem? (i := 15) rfl)) (by decide) (EW.cons (hw _ (List.mem_of_getElem? (i := 2) rfl)) (by decide) (EW.cons (hw _ (List.mem_of_getElem? (i := 58) rfl)) (by decide) (EW.cons (hw _ (List.mem_of_getElem? (i := 55) rfl)) (by decide) (EW.cons (hw _ (List.mem_of_getElem? (i := 54) rfl)) (by decide) (EW.cons (hw _ (List.mem_of_getElem? (i := 22) rfl)) (by decide) (EW.cons (hw _ (List.mem_of_getElem? (i := 59) rfl)) (by decide) (EW.cons (hw _ (List.mem_of_getElem? (i := 47) rfl)) (by decide) (EW.cons (hw _ (List.mem_of_getElem? (i := 10) rfl)) (by decide) (EW.cons (hw _ (List.mem_of_getElem? (i := 56) rfl)) (by decide) (EW.cons (hw _ (List.mem_of_getElem? (i := 60) rfl)) (by decide) (EW.cons (hw _ (List.mem_of_getElem? (i := 48) rfl)) (by decide) EW.nil))))))))))))))
theorem own_wEq {Z : State} {a0 : Array Value} (hw : ∀ d ∈ tables_1, d.before a0 Z = true) : ∀ d ∈ StrChars.Road.wordsEq, d.before a0 Z = true := StrChars.Road.consq (hw _ (List.mem_of_getElem? (i := 20) rfl)) (StrChars.Road.consq (hw _ (List.mem_of_getElem? (i := 3) rfl)) (StrChars.Road.consq (hw _ (List.mem_of_getElem? (i := 49) rfl)) (StrChars.Road.consq (hw _ (List.mem_of_getElem? (i := 34) rfl)) (StrChars.Road.consq (hw _ (List.mem_of_getElem? (i := 45) rfl)) (StrChars.Road.consq (hw _ (List.mem_of_getElem? (i := 46) rfl)) (StrChars.Road.consq (hw _ (List.mem_of_getElem? (i := 50) rfl)) (StrChars.Road.consq (hw _ (List.mem_of_getElem? (i := 51) rfl)) (StrChars.Road.consq (hw _ (List.mem_of_getElem? (i := 53) rfl)) (StrChars.Road.consq (hw _ (List.mem_of_getElem? (i := 52) rfl)) (fun w hw => nomatch hw))))))))))
theorem own_wV {Z : State} {a0 : Array Value} (hw : ∀ d ∈ tables_1, d.before a0 Z = true) : ∀ d ∈ StrChars.Road.words, d.before a0 Z = true := StrChars.Road.consq (hw _ (List.mem_of_getElem? (i := 26) rfl)) (StrChars.Road.consq (hw _ (List.mem_of_getElem? (i := 3) rfl)) (StrChars.Road.consq (hw _ (List.mem_of_getElem? (i := 27) rfl)) (StrChars.Road.consq (hw _ (List.mem_of_getElem? (i := 28) rfl)) (StrChars.Road.consq (hw _ (List.mem_of_getElem? (i := 30) rfl)) (StrChars.Road.consq (hw _ (List.mem_of_getElem? (i := 34) rfl)) (StrChars.Road.consq (hw _ (List.mem_of_getElem? (i := 6) rfl)) (StrChars.Road.consq (hw _ (List.mem_of_getElem? (i := 46) rfl)) (StrChars.Road.consq (hw _ (List.mem_of_getElem? (i := 7) rfl)) (StrChars.Road.consq (hw _ (List.mem_of_getElem? (i := 45) rfl)) (StrChars.Road.consq (hw _ (List.mem_of_getElem? (i := 31) rfl)) (StrChars.Road.consq (hw _ (List.mem_of_getElem? (i := 32) rfl)) (StrChars.Road.consq (hw _ (List.mem_of_getElem? (i := 33) rfl)) (StrChars.Road.consq (hw _ (List.mem_of_getElem? (i := 35) rfl)) (StrChars.Road.consq (hw _ (List.mem_of_getElem? (i := 36) rfl)) (StrChars.Road.consq (hw _ (List.mem_of_getElem? (i := 42) rfl)) (StrChars.Road.consq (hw _ (List.mem_of_getElem? (i := 43) rfl)) (StrChars.Road.consq (hw _ (List.mem_of_getElem? (i := 38) rfl)) (StrChars.Road.consq (hw _ (List.mem_of_getElem? (i := 37) rfl)) (StrChars.Road.consq (hw _ (List.mem_of_getElem? (i := 5) rfl)) (StrChars.Road.consq (hw _ (List.mem_of_getElem? (i := 39) rfl)) (StrChars.Road.consq (hw _ (List.mem_of_getElem? (i := 40) rfl)) (StrChars.Road.consq (hw _ (List.mem_of_getElem? (i := 41) rfl)) (StrChars.Road.consq (hw _ (List.mem_of_getElem? (i := 44) rfl)) (fun w hw => nomatch hw))))))))))))))))))))))))
theorem own_n (y : Int32) (h : y.toBitVec.toNat < 256) : y.toUInt32.toUInt16.toUInt32.toInt32 = y := by
  apply Int32.toBitVec_inj.mp
  apply BitVec.eq_of_toNat_eq
  show ((y.toBitVec.setWidth 16).setWidth 32).toNat = y.toBitVec.toNat
  simp only [BitVec.toNat_setWidth]
  omega
theorem own_r (y : Int32) (h : y.toBitVec.toNat < 256) : ¬ y < 0 ∧ ¬ (255 : Int32) < y := by
  have e : y.toInt = y.toBitVec.toNat := by
    show y.toBitVec.toInt = _
    rw [BitVec.toInt_eq_toNat_cond, if_pos (by omega)]
  simp only [Int32.lt_iff_toInt_lt, show (255 : Int32).toInt = 255 from by decide, show (0 : Int32).toInt = 0 from by decide]
  omega
theorem own_mI (x : Int32) : (x &&& (255 : Int32)).toBitVec.toNat < 256 := by
  show (x.toBitVec &&& (255 : Int32).toBitVec).toNat < 256
  rw [BitVec.toNat_and, show (255 : Int32).toBitVec.toNat = 2 ^ 8 - 1 from by decide, Nat.and_two_pow_sub_one_eq_mod]
  omega
theorem own_mJ (x : Int64) : (x &&& (255 : Int64)).toInt32.toBitVec.toNat < 256 := by
  show ((x.toBitVec &&& (255 : Int64).toBitVec).signExtend 32).toNat < 256
  rw [BitVec.signExtend_eq_setWidth_of_le _ (by decide), BitVec.toNat_setWidth, BitVec.toNat_and, show (255 : Int64).toBitVec.toNat = 2 ^ 8 - 1 from by decide, Nat.and_two_pow_sub_one_eq_mod]
  omega
theorem own_bI (x : Int32) : ¬ (x &&& (255 : Int32)).toUInt32.toUInt16.toUInt32.toInt32.toUInt32.toUInt16.toUInt32.toInt32 < 0 ∧ ¬ (255 : Int32) < (x &&& (255 : Int32)).toUInt32.toUInt16.toUInt32.toInt32.toUInt32.toUInt16.toUInt32.toInt32 := by
  rw [own_n _ (own_mI x), own_n _ (own_mI x)]; exact own_r _ (own_mI x)
theorem own_bJ (x : Int64) : ¬ (x &&& (255 : Int64)).toInt32.toUInt32.toUInt16.toUInt32.toInt32.toUInt32.toUInt16.toUInt32.toInt32 < 0 ∧ ¬ (255 : Int32) < (x &&& (255 : Int64)).toInt32.toUInt32.toUInt16.toUInt32.toInt32.toUInt32.toUInt16.toUInt32.toInt32 := by
  rw [own_n _ (own_mJ x), own_n _ (own_mJ x)]; exact own_r _ (own_mJ x)
def feqn  : Int32 := (0 : Int32)
def fpat (cs : List Int32) (ds : List Int32) (cz : Int32) : Int32 := (if (own_eq ([51, 49, 54, 57, 56, 55] : List Int32) ds) = (0 : Int32) then (0 : Int32) else (if (own_eq cs ([49, 56, 49, 57] : List Int32)) = (0 : Int32) then (if (own_eq cs ([52, 51, 51, 55] : List Int32)) = (0 : Int32) then (0 : Int32) else (1 : Int32)) else (1 : Int32)))
def fpatn (cs : List Int32) (cz : Int32) : Int32 := (if (feqn) = (0 : Int32) then (0 : Int32) else (if (own_eq cs ([49, 56, 49, 57] : List Int32)) = (0 : Int32) then (if (own_eq cs ([52, 51, 51, 55] : List Int32)) = (0 : Int32) then (0 : Int32) else (1 : Int32)) else (1 : Int32)))
def f0_0 (p1 : Int32) (p2 : Int32) (q3 : Int64) (cz : Int32) : Int32 := (p2 &&& (255 : Int32)).toUInt32.toUInt16.toUInt32.toInt32.toUInt32.toUInt16.toUInt32.toInt32
def f0_1 (p1 : Int32) (p2 : Int32) (q3 : Int64) (cz : Int32) : Int32 := ((XT.ushr p2 (8 : Int32)) &&& (255 : Int32)).toUInt32.toUInt16.toUInt32.toInt32
def f0_2 (p1 : Int32) (p2 : Int32) (q3 : Int64) (cz : Int32) : Int32 := ((XT.ushr p2 (16 : Int32)) &&& (255 : Int32)).toUInt32.toUInt16.toUInt32.toInt32
def f0_3 (p1 : Int32) (p2 : Int32) (q3 : Int64) (cz : Int32) : Int32 := ((XT.ushr p2 (24 : Int32)) &&& (255 : Int32)).toUInt32.toUInt16.toUInt32.toInt32
def f0_4 (p1 : Int32) (p2 : Int32) (q3 : Int64) (cz : Int32) : Int32 := (q3 &&& (255 : Int64)).toInt32.toUInt32.toUInt16.toUInt32.toInt32
def f0_5 (p1 : Int32) (p2 : Int32) (q3 : Int64) (cz : Int32) : Int32 := ((XT.ushrL q3 (8 : Int32)) &&& (255 : Int64)).toInt32.toUInt32.toUInt16.toUInt32.toInt32
def f0_6 (p1 : Int32) (p2 : Int32) (q3 : Int64) (cz : Int32) : Int32 := ((XT.ushrL q3 (16 : Int32)) &&& (255 : Int64)).toInt32.toUInt32.toUInt16.toUInt32.toInt32
def f0_7 (p1 : Int32) (p2 : Int32) (q3 : Int64) (cz : Int32) : Int32 := ((XT.ushrL q3 (24 : Int32)) &&& (255 : Int64)).toInt32.toUInt32.toUInt16.toUInt32.toInt32
def f0_8 (p1 : Int32) (p2 : Int32) (q3 : Int64) (cz : Int32) : Int32 := ((XT.ushrL q3 (32 : Int32)) &&& (255 : Int64)).toInt32.toUInt32.toUInt16.toUInt32.toInt32
def f0_9 (p1 : Int32) (p2 : Int32) (q3 : Int64) (cz : Int32) : Int32 := ((XT.ushrL q3 (40 : Int32)) &&& (255 : Int64)).toInt32.toUInt32.toUInt16.toUInt32.toInt32
def f0_10 (p1 : Int32) (p2 : Int32) (q3 : Int64) (cz : Int32) : Int32 := (if (f0_3 p1 p2 q3 cz).toUInt32.toUInt16.toUInt32.toInt32 = (55 : Int32) then (1 : Int32) else (0 : Int32))
def f0_11 (p1 : Int32) (p2 : Int32) (q3 : Int64) (cz : Int32) : Int32 := (if (f0_2 p1 p2 q3 cz).toUInt32.toUInt16.toUInt32.toInt32 = (51 : Int32) then (f0_10 p1 p2 q3 cz) else (0 : Int32))
def f0_12 (p1 : Int32) (p2 : Int32) (q3 : Int64) (cz : Int32) : Int32 := (if (f0_1 p1 p2 q3 cz).toUInt32.toUInt16.toUInt32.toInt32 = (51 : Int32) then (f0_11 p1 p2 q3 cz) else (0 : Int32))
def f0_13 (p1 : Int32) (p2 : Int32) (q3 : Int64) (cz : Int32) : Int32 := (if (f0_0 p1 p2 q3 cz) = (52 : Int32) then (f0_12 p1 p2 q3 cz) else (0 : Int32))
def f0_14 (p1 : Int32) (p2 : Int32) (q3 : Int64) (cz : Int32) : Int32 := (if (f0_3 p1 p2 q3 cz).toUInt32.toUInt16.toUInt32.toInt32 = (57 : Int32) then (1 : Int32) else (f0_13 p1 p2 q3 cz))
def f0_15 (p1 : Int32) (p2 : Int32) (q3 : Int64) (cz : Int32) : Int32 := (if (f0_2 p1 p2 q3 cz).toUInt32.toUInt16.toUInt32.toInt32 = (49 : Int32) then (f0_14 p1 p2 q3 cz) else (f0_13 p1 p2 q3 cz))
def f0_16 (p1 : Int32) (p2 : Int32) (q3 : Int64) (cz : Int32) : Int32 := (if (f0_1 p1 p2 q3 cz).toUInt32.toUInt16.toUInt32.toInt32 = (56 : Int32) then (f0_15 p1 p2 q3 cz) else (f0_13 p1 p2 q3 cz))
def f0_17 (p1 : Int32) (p2 : Int32) (q3 : Int64) (cz : Int32) : Int32 := (if (f0_0 p1 p2 q3 cz) = (49 : Int32) then (f0_16 p1 p2 q3 cz) else (f0_13 p1 p2 q3 cz))
def f0_c13 (p1 : Int32) (p2 : Int32) (q3 : Int64) (cz : Int32) : List Int32 := (if (p1 &&& (7 : Int32)) = (0 : Int32) then ([49, 56, 49, 57] : List Int32) else (if (p1 &&& (7 : Int32)) = (1 : Int32) then ([52, 51, 51, 55] : List Int32) else (if (p1 &&& (7 : Int32)) = (2 : Int32) then ([54, 56, 49, 51] : List Int32) else (if (p1 &&& (7 : Int32)) = (3 : Int32) then ([55, 48, 53, 50] : List Int32) else (if (p1 &&& (7 : Int32)) = (4 : Int32) then ([49, 56, 49, 57, 48] : List Int32) else (if (p1 &&& (7 : Int32)) = (5 : Int32) then ([52, 51, 51] : List Int32) else (if (p1 &&& (7 : Int32)) = (6 : Int32) then ([] : List Int32) else ([(f0_0 p1 p2 q3 cz), (f0_1 p1 p2 q3 cz).toUInt32.toUInt16.toUInt32.toInt32, (f0_2 p1 p2 q3 cz).toUInt32.toUInt16.toUInt32.toInt32, (f0_3 p1 p2 q3 cz).toUInt32.toUInt16.toUInt32.toInt32] : List Int32))))))))
def f0_o13 (p1 : Int32) (p2 : Int32) (q3 : Int64) (cz : Int32) : Int32 := (if (p1 &&& (7 : Int32)) = (0 : Int32) then (1 : Int32) else (if (p1 &&& (7 : Int32)) = (1 : Int32) then (1 : Int32) else (if (p1 &&& (7 : Int32)) = (2 : Int32) then (0 : Int32) else (if (p1 &&& (7 : Int32)) = (3 : Int32) then (0 : Int32) else (if (p1 &&& (7 : Int32)) = (4 : Int32) then (0 : Int32) else (if (p1 &&& (7 : Int32)) = (5 : Int32) then (0 : Int32) else (if (p1 &&& (7 : Int32)) = (6 : Int32) then (0 : Int32) else (f0_17 p1 p2 q3 cz))))))))
def f0_18 (p1 : Int32) (p2 : Int32) (q3 : Int64) (cz : Int32) : Int32 := (if (fpatn (f0_c13 p1 p2 q3 cz) cz) = (0 : Int32) then (1 : Int32) else (0 : Int32))
def f0_19 (p1 : Int32) (p2 : Int32) (q3 : Int64) (cz : Int32) : Int32 := (if (f0_9 p1 p2 q3 cz).toUInt32.toUInt16.toUInt32.toInt32 = (55 : Int32) then (1 : Int32) else (0 : Int32))
def f0_20 (p1 : Int32) (p2 : Int32) (q3 : Int64) (cz : Int32) : Int32 := (if (f0_8 p1 p2 q3 cz).toUInt32.toUInt16.toUInt32.toInt32 = (56 : Int32) then (f0_19 p1 p2 q3 cz) else (0 : Int32))
def f0_21 (p1 : Int32) (p2 : Int32) (q3 : Int64) (cz : Int32) : Int32 := (if (f0_7 p1 p2 q3 cz).toUInt32.toUInt16.toUInt32.toInt32 = (57 : Int32) then (f0_20 p1 p2 q3 cz) else (0 : Int32))
def f0_22 (p1 : Int32) (p2 : Int32) (q3 : Int64) (cz : Int32) : Int32 := (if (f0_6 p1 p2 q3 cz).toUInt32.toUInt16.toUInt32.toInt32 = (54 : Int32) then (f0_21 p1 p2 q3 cz) else (0 : Int32))
def f0_23 (p1 : Int32) (p2 : Int32) (q3 : Int64) (cz : Int32) : Int32 := (if (f0_5 p1 p2 q3 cz).toUInt32.toUInt16.toUInt32.toInt32 = (49 : Int32) then (f0_22 p1 p2 q3 cz) else (0 : Int32))
def f0_24 (p1 : Int32) (p2 : Int32) (q3 : Int64) (cz : Int32) : Int32 := (if (f0_4 p1 p2 q3 cz).toUInt32.toUInt16.toUInt32.toInt32 = (51 : Int32) then (f0_23 p1 p2 q3 cz) else (0 : Int32))
def f0_c128 (p1 : Int32) (p2 : Int32) (q3 : Int64) (cz : Int32) : List Int32 := (if ((XT.ushr p1 (3 : Int32)) &&& (7 : Int32)) = (0 : Int32) then ([51, 49, 54, 57, 56, 55] : List Int32) else (if ((XT.ushr p1 (3 : Int32)) &&& (7 : Int32)) = (2 : Int32) then ([51, 49, 54, 57, 57, 50] : List Int32) else (if ((XT.ushr p1 (3 : Int32)) &&& (7 : Int32)) = (3 : Int32) then ([] : List Int32) else (if ((XT.ushr p1 (3 : Int32)) &&& (7 : Int32)) = (4 : Int32) then ([51, 49, 54, 57, 56, 55, 48] : List Int32) else (if ((XT.ushr p1 (3 : Int32)) &&& (7 : Int32)) = (5 : Int32) then ([49, 56, 49, 57] : List Int32) else (if ((XT.ushr p1 (3 : Int32)) &&& (7 : Int32)) = (6 : Int32) then ([51, 49, 54, 57, 56] : List Int32) else ([(f0_4 p1 p2 q3 cz).toUInt32.toUInt16.toUInt32.toInt32, (f0_5 p1 p2 q3 cz).toUInt32.toUInt16.toUInt32.toInt32, (f0_6 p1 p2 q3 cz).toUInt32.toUInt16.toUInt32.toInt32, (f0_7 p1 p2 q3 cz).toUInt32.toUInt16.toUInt32.toInt32, (f0_8 p1 p2 q3 cz).toUInt32.toUInt16.toUInt32.toInt32, (f0_9 p1 p2 q3 cz).toUInt32.toUInt16.toUInt32.toInt32] : List Int32)))))))
def f0_o128 (p1 : Int32) (p2 : Int32) (q3 : Int64) (cz : Int32) : Int32 := (if ((XT.ushr p1 (3 : Int32)) &&& (7 : Int32)) = (0 : Int32) then (1 : Int32) else (if ((XT.ushr p1 (3 : Int32)) &&& (7 : Int32)) = (2 : Int32) then (0 : Int32) else (if ((XT.ushr p1 (3 : Int32)) &&& (7 : Int32)) = (3 : Int32) then (0 : Int32) else (if ((XT.ushr p1 (3 : Int32)) &&& (7 : Int32)) = (4 : Int32) then (0 : Int32) else (if ((XT.ushr p1 (3 : Int32)) &&& (7 : Int32)) = (5 : Int32) then (0 : Int32) else (if ((XT.ushr p1 (3 : Int32)) &&& (7 : Int32)) = (6 : Int32) then (0 : Int32) else (f0_24 p1 p2 q3 cz)))))))
def f0_25 (p1 : Int32) (p2 : Int32) (q3 : Int64) (cz : Int32) : Int32 := (if (f0_o128 p1 p2 q3 cz) = (0 : Int32) then (0 : Int32) else (1 : Int32))
def f0_26 (p1 : Int32) (p2 : Int32) (q3 : Int64) (cz : Int32) : Int32 := (if (f0_o13 p1 p2 q3 cz) = (0 : Int32) then (0 : Int32) else (f0_25 p1 p2 q3 cz))
def f0_27 (p1 : Int32) (p2 : Int32) (q3 : Int64) (cz : Int32) : Int32 := (if (fpat (f0_c13 p1 p2 q3 cz) (f0_c128 p1 p2 q3 cz) cz) = (f0_26 p1 p2 q3 cz) then (1 : Int32) else (0 : Int32))
def f0 (p1 : Int32) (p2 : Int32) (q3 : Int64) (cz : Int32) : Int32 := (if ((XT.ushr p1 (3 : Int32)) &&& (7 : Int32)) = (1 : Int32) then ((f0_18 p1 p2 q3 cz) &&& 1) else ((f0_27 p1 p2 q3 cz) &&& 1))
def own_K (w x y z : Int32) : Int32 := if w = 52 then (if x = 51 then (if y = 51 then (if z = 55 then 1 else 0) else 0) else 0) else 0
def own_T (w x y z : Int32) : Int32 := if w = 49 then (if x = 56 then (if y = 49 then (if z = 57 then 1 else own_K w x y z) else own_K w x y z) else own_K w x y z) else own_K w x y z
def own_D (a b c d e f : Int32) : Int32 := if a = 51 then (if b = 49 then (if c = 54 then (if d = 57 then (if e = 56 then (if f = 55 then 1 else 0) else 0) else 0) else 0) else 0) else 0
theorem own_Kv (w x y z : Int32) : (own_K w x y z = 1 ∧ (w = 52 ∧ x = 51 ∧ y = 51 ∧ z = 55)) ∨ (own_K w x y z = 0 ∧ ¬ (w = 52 ∧ x = 51 ∧ y = 51 ∧ z = 55)) := by
  unfold own_K
  by_cases h1 : w = 52
  · rw [if_pos h1]
    by_cases h2 : x = 51
    · rw [if_pos h2]
      by_cases h3 : y = 51
      · rw [if_pos h3]
        by_cases h4 : z = 55
        · rw [if_pos h4]; exact Or.inl ⟨rfl, h1, h2, h3, h4⟩
        · rw [if_neg h4]; exact Or.inr ⟨rfl, fun h => h4 h.2.2.2⟩
      · rw [if_neg h3]; exact Or.inr ⟨rfl, fun h => h3 h.2.2.1⟩
    · rw [if_neg h2]; exact Or.inr ⟨rfl, fun h => h2 h.2.1⟩
  · rw [if_neg h1]; exact Or.inr ⟨rfl, fun h => h1 h.1⟩
theorem own_Tv (w x y z : Int32) : (own_T w x y z = 1 ∧ ((w = 49 ∧ x = 56 ∧ y = 49 ∧ z = 57) ∨ (w = 52 ∧ x = 51 ∧ y = 51 ∧ z = 55))) ∨ (own_T w x y z = 0 ∧ ¬ (w = 49 ∧ x = 56 ∧ y = 49 ∧ z = 57) ∧ ¬ (w = 52 ∧ x = 51 ∧ y = 51 ∧ z = 55)) := by
  have hk := own_Kv w x y z
  have go : ¬ (w = 49 ∧ x = 56 ∧ y = 49 ∧ z = 57) → (own_K w x y z = 1 ∧ ((w = 49 ∧ x = 56 ∧ y = 49 ∧ z = 57) ∨ (w = 52 ∧ x = 51 ∧ y = 51 ∧ z = 55))) ∨ (own_K w x y z = 0 ∧ ¬ (w = 49 ∧ x = 56 ∧ y = 49 ∧ z = 57) ∧ ¬ (w = 52 ∧ x = 51 ∧ y = 51 ∧ z = 55)) := by
    intro hn
    rcases hk with ⟨a, b⟩ | ⟨a, b⟩
    · exact Or.inl ⟨a, Or.inr b⟩
    · exact Or.inr ⟨a, hn, b⟩
  unfold own_T
  by_cases h1 : w = 49
  · rw [if_pos h1]
    by_cases h2 : x = 56
    · rw [if_pos h2]
      by_cases h3 : y = 49
      · rw [if_pos h3]
        by_cases h4 : z = 57
        · rw [if_pos h4]; exact Or.inl ⟨rfl, Or.inl ⟨h1, h2, h3, h4⟩⟩
        · rw [if_neg h4]; exact go (fun h => h4 h.2.2.2)
      · rw [if_neg h3]; exact go (fun h => h3 h.2.2.1)
    · rw [if_neg h2]; exact go (fun h => h2 h.2.1)
  · rw [if_neg h1]; exact go (fun h => h1 h.1)
theorem own_Dv (a b c d e f : Int32) : (own_D a b c d e f = 1 ∧ ([51, 49, 54, 57, 56, 55] : List Int32) = [a, b, c, d, e, f]) ∨ (own_D a b c d e f = 0 ∧ ¬ ([51, 49, 54, 57, 56, 55] : List Int32) = [a, b, c, d, e, f]) := by
  unfold own_D
  by_cases h1 : a = 51
  · rw [if_pos h1]
    by_cases h2 : b = 49
    · rw [if_pos h2]
      by_cases h3 : c = 54
      · rw [if_pos h3]
        by_cases h4 : d = 57
        · rw [if_pos h4]
          by_cases h5 : e = 56
          · rw [if_pos h5]
            by_cases h6 : f = 55
            · rw [if_pos h6]; subst h1 h2 h3 h4 h5 h6; exact Or.inl ⟨rfl, rfl⟩
            · rw [if_neg h6]; exact Or.inr ⟨rfl, fun h => by simp only [List.cons.injEq, and_true] at h; exact h6 h.2.2.2.2.2.symm⟩
          · rw [if_neg h5]; exact Or.inr ⟨rfl, fun h => by simp only [List.cons.injEq, and_true] at h; exact h5 h.2.2.2.2.1.symm⟩
        · rw [if_neg h4]; exact Or.inr ⟨rfl, fun h => by simp only [List.cons.injEq, and_true] at h; exact h4 h.2.2.2.1.symm⟩
      · rw [if_neg h3]; exact Or.inr ⟨rfl, fun h => by simp only [List.cons.injEq, and_true] at h; exact h3 h.2.2.1.symm⟩
    · rw [if_neg h2]; exact Or.inr ⟨rfl, fun h => by simp only [List.cons.injEq, and_true] at h; exact h2 h.2.1.symm⟩
  · rw [if_neg h1]; exact Or.inr ⟨rfl, fun h => by simp only [List.cons.injEq, and_true] at h; exact h1 h.1.symm⟩
theorem own_l4 (w x y z a b c d : Int32) : (([w, x, y, z] : List Int32) = [a, b, c, d]) ↔ (w = a ∧ x = b ∧ y = c ∧ z = d) := by
  simp only [List.cons.injEq, and_true]
theorem own_i (p1 p2 : Int32) (q3 : Int64) (cz : Int32) : (f0_o13 p1 p2 q3 cz = 1 ∧ (f0_c13 p1 p2 q3 cz = [49, 56, 49, 57] ∨ f0_c13 p1 p2 q3 cz = [52, 51, 51, 55])) ∨ (f0_o13 p1 p2 q3 cz = 0 ∧ ¬ f0_c13 p1 p2 q3 cz = [49, 56, 49, 57] ∧ ¬ f0_c13 p1 p2 q3 cz = [52, 51, 51, 55]) := by
  unfold f0_o13 f0_c13
  by_cases h0 : (p1 &&& (7 : Int32)) = (0 : Int32)
  · rw [if_pos h0, if_pos h0]; exact Or.inl ⟨rfl, Or.inl rfl⟩
  rw [if_neg h0, if_neg h0]
  by_cases h1 : (p1 &&& (7 : Int32)) = (1 : Int32)
  · rw [if_pos h1, if_pos h1]; exact Or.inl ⟨rfl, Or.inr rfl⟩
  rw [if_neg h1, if_neg h1]
  by_cases h2 : (p1 &&& (7 : Int32)) = (2 : Int32)
  · rw [if_pos h2, if_pos h2]; exact Or.inr ⟨rfl, by decide, by decide⟩
  rw [if_neg h2, if_neg h2]
  by_cases h3 : (p1 &&& (7 : Int32)) = (3 : Int32)
  · rw [if_pos h3, if_pos h3]; exact Or.inr ⟨rfl, by decide, by decide⟩
  rw [if_neg h3, if_neg h3]
  by_cases h4 : (p1 &&& (7 : Int32)) = (4 : Int32)
  · rw [if_pos h4, if_pos h4]; exact Or.inr ⟨rfl, by decide, by decide⟩
  rw [if_neg h4, if_neg h4]
  by_cases h5 : (p1 &&& (7 : Int32)) = (5 : Int32)
  · rw [if_pos h5, if_pos h5]; exact Or.inr ⟨rfl, by decide, by decide⟩
  rw [if_neg h5, if_neg h5]
  by_cases h6 : (p1 &&& (7 : Int32)) = (6 : Int32)
  · rw [if_pos h6, if_pos h6]; exact Or.inr ⟨rfl, by decide, by decide⟩
  rw [if_neg h6, if_neg h6]
  rw [own_l4, own_l4]
  exact own_Tv (f0_0 p1 p2 q3 cz) ((f0_1 p1 p2 q3 cz).toUInt32.toUInt16.toUInt32.toInt32) ((f0_2 p1 p2 q3 cz).toUInt32.toUInt16.toUInt32.toInt32) ((f0_3 p1 p2 q3 cz).toUInt32.toUInt16.toUInt32.toInt32)
theorem own_d (p1 p2 : Int32) (q3 : Int64) (cz : Int32) : (f0_o128 p1 p2 q3 cz = 1 ∧ ([51, 49, 54, 57, 56, 55] : List Int32) = f0_c128 p1 p2 q3 cz) ∨ (f0_o128 p1 p2 q3 cz = 0 ∧ ¬ ([51, 49, 54, 57, 56, 55] : List Int32) = f0_c128 p1 p2 q3 cz) := by
  unfold f0_o128 f0_c128
  by_cases h0 : ((XT.ushr p1 (3 : Int32)) &&& (7 : Int32)) = (0 : Int32)
  · rw [if_pos h0, if_pos h0]; exact Or.inl ⟨rfl, rfl⟩
  rw [if_neg h0, if_neg h0]
  by_cases h2 : ((XT.ushr p1 (3 : Int32)) &&& (7 : Int32)) = (2 : Int32)
  · rw [if_pos h2, if_pos h2]; exact Or.inr ⟨rfl, by decide⟩
  rw [if_neg h2, if_neg h2]
  by_cases h3 : ((XT.ushr p1 (3 : Int32)) &&& (7 : Int32)) = (3 : Int32)
  · rw [if_pos h3, if_pos h3]; exact Or.inr ⟨rfl, by decide⟩
  rw [if_neg h3, if_neg h3]
  by_cases h4 : ((XT.ushr p1 (3 : Int32)) &&& (7 : Int32)) = (4 : Int32)
  · rw [if_pos h4, if_pos h4]; exact Or.inr ⟨rfl, by decide⟩
  rw [if_neg h4, if_neg h4]
  by_cases h5 : ((XT.ushr p1 (3 : Int32)) &&& (7 : Int32)) = (5 : Int32)
  · rw [if_pos h5, if_pos h5]; exact Or.inr ⟨rfl, by decide⟩
  rw [if_neg h5, if_neg h5]
  by_cases h6 : ((XT.ushr p1 (3 : Int32)) &&& (7 : Int32)) = (6 : Int32)
  · rw [if_pos h6, if_pos h6]; exact Or.inr ⟨rfl, by decide⟩
  rw [if_neg h6, if_neg h6]
  exact own_Dv ((f0_4 p1 p2 q3 cz).toUInt32.toUInt16.toUInt32.toInt32) ((f0_5 p1 p2 q3 cz).toUInt32.toUInt16.toUInt32.toInt32) ((f0_6 p1 p2 q3 cz).toUInt32.toUInt16.toUInt32.toInt32) ((f0_7 p1 p2 q3 cz).toUInt32.toUInt16.toUInt32.toInt32) ((f0_8 p1 p2 q3 cz).toUInt32.toUInt16.toUInt32.toInt32) ((f0_9 p1 p2 q3 cz).toUInt32.toUInt16.toUInt32.toInt32)
theorem own_law (p1 p2 : Int32) (q3 : Int64) (cz : Int32) : f0 p1 p2 q3 cz = 1 := by
  unfold f0
  by_cases hd : ((XT.ushr p1 (3 : Int32)) &&& (7 : Int32)) = (1 : Int32)
  · rw [if_pos hd]
    have e : f0_18 p1 p2 q3 cz = 1 := by simp [f0_18, fpatn, feqn]
    rw [e]; decide
  · rw [if_neg hd]
    have e : f0_27 p1 p2 q3 cz = 1 := by
      unfold f0_27
      rw [if_pos]
      rcases own_i p1 p2 q3 cz with ⟨a, b⟩ | ⟨a, b, c⟩ <;> rcases own_d p1 p2 q3 cz with ⟨a', b'⟩ | ⟨a', b'⟩
      · rcases b with b | b <;> (unfold fpat f0_26 f0_25 own_eq; rw [a, a', ← b', b]; first | rfl | decide)
      · unfold fpat f0_26 f0_25 own_eq; rw [a, a', if_neg b']; first | rfl | simp +decide
      · unfold fpat f0_26 f0_25 own_eq; rw [a, a', ← b', if_neg b, if_neg c]; first | rfl | decide
      · unfold fpat f0_26 f0_25 own_eq; rw [a, a', if_neg b']; first | rfl | simp +decide
    rw [e]; decide

abbrev own_G (tb : Tables) (e : Env) (below : List Frame) (Q : Outcome → State → Prop) (A : State) : Prop := ∃ s₂ o, Steps tb e below A s₂ ∧ s₂.status = .running ∧ Ended s₂ below o ∧ Q o s₂
theorem own_step {tb : Tables} {e : Env} {below : List Frame} {Q : Outcome → State → Prop} {A B : State} (h : ∀ t, Steps tb e below B t → Steps tb e below A t) (g : own_G tb e below Q B) : own_G tb e below Q A := by
  obtain ⟨s2, o, h1, h2⟩ := g
  exact ⟨s2, o, h _ h1, h2⟩
theorem own_aN {x : Addr} : XT.acmp .eq (.ref x) .null = false ∧ XT.acmp .ne (.ref x) .null = true := by simp [XT.acmp]
theorem own_aT {x y : Addr} (h : x = y) : XT.acmp .eq (.ref x) (.ref y) = true ∧ XT.acmp .ne (.ref x) (.ref y) = false := by subst h; exact ⟨by simp [XT.acmp], by simp [XT.acmp]⟩
theorem own_aF {x y : Addr} (h : ¬ x = y) : XT.acmp .eq (.ref x) (.ref y) = false ∧ XT.acmp .ne (.ref x) (.ref y) = true := by simp [XT.acmp, h]
theorem own_cl (x y : Int64) : XT.cmpL x y < 0 ↔ x < y := lw_lt x y
theorem own_cg (x y : Int64) : 0 < XT.cmpL x y ↔ y < x := lw_gt x y
theorem own_ce (x y : Int64) : XT.cmpL x y = 0 ↔ x = y := lw_eq x y
theorem pd_0 : parseMethodDescriptor "(Ljava/lang/Object;)Z" = some ⟨[(.object "java/lang/Object")], some .boolean⟩ := by decide +kernel
theorem pd_1 : parseMethodDescriptor "([C)V" = some ⟨[(.array .char)], none⟩ := by decide +kernel
theorem pd_2 : parseMethodDescriptor "(Ljava/lang/String;Ljava/lang/String;)Z" = some ⟨[(.object "java/lang/String"), (.object "java/lang/String")], some .boolean⟩ := by decide +kernel
theorem d2_0 : decode jdk_42_method_66_code 0 = .ok (.aload_n 0, 1) := by decide +kernel
theorem d2_1 : decode jdk_42_method_66_code 1 = .ok (.aload_n 1, 1) := by decide +kernel
theorem d2_2 : decode jdk_42_method_66_code 2 = .ok (.if_acmp .ne 5, 3) := by decide +kernel
theorem d2_7 : decode jdk_42_method_66_code 7 = .ok (.aload_n 1, 1) := by decide +kernel
theorem d2_8 : decode jdk_42_method_66_code 8 = .ok (.instanceof 10, 3) := by decide +kernel
theorem d2_11 : decode jdk_42_method_66_code 11 = .ok (.ifCond .eq 43, 3) := by decide +kernel
theorem d2_54 : decode jdk_42_method_66_code 54 = .ok (.iconst 0, 1) := by decide +kernel
theorem d2_55 : decode jdk_42_method_66_code 55 = .ok (.ireturn, 1) := by decide +kernel
theorem pn_eqn : plainName "java/lang/String" = true := by first | (simp [plainName, overriddenIn]; done) | decide +kernel
theorem ef_eqn (m : MethodId) (a1 : Addr) : entryFrame m #[(.ref a1), .null] 3 = mkF m 0 #[.val (.ref a1), .val .null, .unset] [] := by first | (simp [entryFrame, mkF, argsToLocals, Value.category]; done) | rfl
def Qeqn (Z : State) (a1 : Addr) (h0 : Heap) (n0 : Nat) (v : Option Value) (h : Heap) (L : List Loc) : Prop := v = some (.int (feqn )) ∧ Fr n0 L ∧ h = h0
set_option maxRecDepth 65536 in
set_option maxHeartbeats 40000000 in
theorem rmeqn (l : Launch) (Z : State) (a0 : Array Value) (hw : ∀ d ∈ tables_1, d.before a0 Z = true) (ws : List Jvm.Cond) (a1 : Addr) (h0 : Heap) (n0 : Nat) (Z0 : n0 ≤ h0.size) :
    MetFree l (⟨"java/lang/String", "equals", "(Ljava/lang/Object;)Z"⟩ : MethodName) (head1 (Jvm.Cond.code (⟨"java/lang/String", "equals", "(Ljava/lang/Object;)Z"⟩ : MethodName) jdk_42_method_66_code 3 (some .boolean) :: ws) ({ frames := 0, cells := 0, slots := 0, locals := 0 } : Room)) (fun a U => a = #[(.ref a1), .null] ∧ Z.Warmed39 U.vm ∧ U.heap = h0) (fun _ _ _ _ _ => True) (fun _ U o U' => ∃ v L, o = .returned v ∧ Qeqn Z a1 h0 n0 v U'.heap L ∧ FrameEnd U o U' L ({ frames := 0, cells := 0, slots := 0, locals := 0 } : Room).cells ({ frames := 0, cells := 0, slots := 0, locals := 0 } : Room).slots) := by
  refine MetFree.of_bodySF (plainFor_of_name pn_eqn) hisR ?_
  intro p e s m args below meth c s₁ Bd hml0 hP hK
  obtain ⟨rfl, hZ, hh⟩ := hP
  have hx := Bd.exec
  have hby := Bd.bytes
  have hml : c.maxLocals = 3 := hml0
  have hown : s.vm.findClass "java/lang/String" = some m.cls := findClass_of_methodNamed Bd.named
  have hnm := (name_of_methodNamed Bd.named Bd.method).1
  have X0 : Stand p l e ({ frames := 0, cells := 0, slots := 0, locals := 0 } : Room) s m #[(.ref a1), .null] below meth c s₁ [] 0 0 := Stand.of_body Bd
  have e0 : s₁.heap = h0 := by rw [← hh, Bd.state]; rfl
  have N0 := Fr.nil n0
  have pre0 : ∀ t, Steps p.tables e below (s₁.setTop (mkF m 0 #[.val (.ref a1), .val .null, .unset] [])) t → Steps p.tables e below (s₁.setTop (entryFrame m #[(.ref a1), .null] 3)) t := fun t k => castTop (ef_eqn m a1) k
  refine own_step (Q := fun o U' => ∃ v L, o = .returned v ∧ Qeqn Z a1 h0 n0 v U'.heap L ∧ FrameEnd s o U' L ({ frames := 0, cells := 0, slots := 0, locals := 0 } : Room).cells ({ frames := 0, cells := 0, slots := 0, locals := 0 } : Room).slots) pre0 ?_
  have h2 : (0 : Int32) = (0 : Int32) := by decide
  obtain ⟨fs, hr, hrun, hended, hW, hsame⟩ := X0.leave (v := some (.int (0 : Int32))) (fun h => by rw [Bd.returns] at h; cases h)
  refine ⟨_, _, ?_, hrun, hended, _, _, rfl, ?_, ⟨_, rfl⟩, hW, hsame.mono (by decide) (by decide)⟩
  · show Steps p.tables e below (s₁.setTop (mkF m 0 #[.val (.ref a1), .val .null, .unset] [])) _
    refine XS.aloadN X0.here hx rfl (hb hby d2_0) rfl rfl ?_
    show Steps p.tables e below (s₁.setTop (mkF m 1 #[.val (.ref a1), .val .null, .unset] [(.ref a1)])) _
    refine XS.aloadN X0.here hx rfl (hb hby d2_1) rfl rfl ?_
    show Steps p.tables e below (s₁.setTop (mkF m 2 #[.val (.ref a1), .val .null, .unset] [.null, (.ref a1)])) _
    refine XT.acmpYes X0.here hx rfl (pc0 := 2) (pc' := 7) rfl (hb hby d2_2) rfl rfl rfl own_aN.2 (by decide) (by decide) ?_
    show Steps p.tables e below (s₁.setTop (mkF m 7 #[.val (.ref a1), .val .null, .unset] [])) _
    refine XS.aloadN X0.here hx rfl (hb hby d2_7) rfl rfl ?_
    show Steps p.tables e below (s₁.setTop (mkF m 8 #[.val (.ref a1), .val .null, .unset] [.null])) _
    refine X0.instanceofNull hx (g := (mkF m 8 #[.val (.ref a1), .val .null, .unset] [.null])) rfl rfl (hb hby d2_8) _ ?_
    show Steps p.tables e below (s₁.setTop (mkF m 11 #[.val (.ref a1), .val .null, .unset] [(.int (0 : Int32))])) _
    refine XS.ifYes X0.here hx rfl (pc0 := 11) (pc' := 54) rfl (hb hby d2_11) rfl ((if0 _ _).trans (teq h2).1) (by decide) (by decide) ?_
    show Steps p.tables e below (s₁.setTop (mkF m 54 #[.val (.ref a1), .val .null, .unset] [])) _
    refine XS.iconst X0.here hx rfl (hb hby d2_54) ?_
    show Steps p.tables e below (s₁.setTop (mkF m 55 #[.val (.ref a1), .val .null, .unset] [(.int (0 : Int32))])) _
    exact retN X0 hx (t := .boolean) Bd.returns (by simp) (hb hby d2_55) hr
  · show Qeqn Z a1 h0 n0 _ s₁.heap _
    rw [e0]
    have hf : feqn  = (0 : Int32) := rfl
    exact ⟨by rw [hf], N0, rfl⟩
theorem d1_0 : decode prog_23_method_3_code 0 = .ok (.ldc 30, 2) := by decide +kernel
theorem d1_2 : decode prog_23_method_3_code 2 = .ok (.aload_n 1, 1) := by decide +kernel
theorem d1_3 : decode prog_23_method_3_code 3 = .ok (.invokevirtual 21, 3) := by decide +kernel
theorem d1_6 : decode prog_23_method_3_code 6 = .ok (.ifCond .eq 25, 3) := by decide +kernel
theorem d1_9 : decode prog_23_method_3_code 9 = .ok (.aload_n 0, 1) := by decide +kernel
theorem d1_10 : decode prog_23_method_3_code 10 = .ok (.ldc 19, 2) := by decide +kernel
theorem d1_12 : decode prog_23_method_3_code 12 = .ok (.invokevirtual 21, 3) := by decide +kernel
theorem d1_15 : decode prog_23_method_3_code 15 = .ok (.ifCond .ne 12, 3) := by decide +kernel
theorem d1_18 : decode prog_23_method_3_code 18 = .ok (.aload_n 0, 1) := by decide +kernel
theorem d1_19 : decode prog_23_method_3_code 19 = .ok (.ldc 26, 2) := by decide +kernel
theorem d1_21 : decode prog_23_method_3_code 21 = .ok (.invokevirtual 21, 3) := by decide +kernel
theorem d1_24 : decode prog_23_method_3_code 24 = .ok (.ifCond .eq 7, 3) := by decide +kernel
theorem d1_27 : decode prog_23_method_3_code 27 = .ok (.iconst 1, 1) := by decide +kernel
theorem d1_28 : decode prog_23_method_3_code 28 = .ok (.goto 4, 3) := by decide +kernel
theorem d1_31 : decode prog_23_method_3_code 31 = .ok (.iconst 0, 1) := by decide +kernel
theorem d1_32 : decode prog_23_method_3_code 32 = .ok (.ireturn, 1) := by decide +kernel
theorem pn_pat : plainName "com/example/medspan/medspan/Opioids" = true := by first | (simp [plainName, overriddenIn]; done) | decide +kernel
theorem ef_pat (m : MethodId) (a1 : Addr) (a2 : Addr) : entryFrame m #[(.ref a1), (.ref a2)] 2 = mkF m 0 #[.val (.ref a1), .val (.ref a2)] [] := by first | (simp [entryFrame, mkF, argsToLocals, Value.category]; done) | rfl
def Qpat (Z : State) (a1 : Addr) (a2 : Addr) (cs : List Int32) (ds : List Int32) (cz : Int32) (h0 : Heap) (n0 : Nat) (v : Option Value) (h : Heap) (L : List Loc) : Prop := v = some (.int (fpat cs ds cz)) ∧ Fr n0 L ∧ Ext h0 h
set_option maxRecDepth 65536 in
set_option maxHeartbeats 40000000 in
theorem rmpat (l : Launch) (Z : State) (a0 : Array Value) (hw : ∀ d ∈ tables_1, d.before a0 Z = true) (ws : List Jvm.Cond) (a1 : Addr) (a2 : Addr) (cs : List Int32) (ds : List Int32) (cz : Int32) (h0 : Heap) (n0 : Nat) (Z0 : n0 ≤ h0.size) (OLD : Old Z n0 h0) (T_a1 : own_Str Z h0 a1 cs) (T_a2 : own_Str Z h0 a2 ds) (hCS : Sta Z Z.heap "java/lang/String" "COMPACT_STRINGS" "Z" (.int cz)) (hcz : ¬ cz = 0) :
    MetFree l (⟨"com/example/medspan/medspan/Opioids", "isPatch", "(Ljava/lang/String;Ljava/lang/String;)Z"⟩ : MethodName) (head1 (Jvm.Cond.code (⟨"com/example/medspan/medspan/Opioids", "isPatch", "(Ljava/lang/String;Ljava/lang/String;)Z"⟩ : MethodName) prog_23_method_3_code 2 (some .boolean) :: ws) ({ frames := 2, cells := 6, slots := 68, locals := 28 } : Room)) (fun a U => a = #[(.ref a1), (.ref a2)] ∧ Z.Warmed39 U.vm ∧ U.heap = h0 ∧ CHv Z consts_1 U.vm h0) (fun _ _ _ _ _ => True) (fun _ U o U' => ∃ v L, o = .returned v ∧ Qpat Z a1 a2 cs ds cz h0 n0 v U'.heap L ∧ CHr Z consts_1 U.vm U.heap U'.vm U'.heap ∧ ReturnedEndW U o U' L ({ frames := 2, cells := 6, slots := 68, locals := 28 } : Room).cells ({ frames := 2, cells := 6, slots := 68, locals := 28 } : Room).slots) := by
  refine MetFree.of_bodySF (plainFor_of_name pn_pat) hisR ?_
  intro p e s m args below meth c s₁ Bd hml0 hP hK
  obtain ⟨rfl, hZ0, hh, hCH⟩ := hP
  have hZ : Z.Warmed39 (s.setVm s.vm).vm := hZ0
  have hx := Bd.exec
  have hby := Bd.bytes
  have hml : c.maxLocals = 2 := hml0
  have hown : (s.setVm s.vm).vm.findClass "com/example/medspan/medspan/Opioids" = some m.cls := findClass_of_methodNamed Bd.named
  have hnm := (name_of_methodNamed Bd.named Bd.method).1
  have X0 : Stand p l e ({ frames := 2, cells := 6, slots := 68, locals := 28 } : Room) (s.setVm s.vm) m #[(.ref a1), (.ref a2)] below meth c s₁ [] 0 0 := Stand.of_body Bd
  have e0 : s₁.heap = h0 := by rw [← hh, Bd.state]; rfl
  have N0 := Fr.nil n0
  have pre0 : ∀ t, Steps p.tables e below (s₁.setTop (mkF m 0 #[.val (.ref a1), .val (.ref a2)] [])) t → Steps p.tables e below (s₁.setTop (entryFrame m #[(.ref a1), (.ref a2)] 2)) t := fun t k => castTop (ef_pat m a1 a2) k
  refine own_step (Q := fun o U' => ∃ v L, o = .returned v ∧ Qpat Z a1 a2 cs ds cz h0 n0 v U'.heap L ∧ CHr Z consts_1 s.vm s.heap U'.vm U'.heap ∧ ReturnedEndW s o U' L ({ frames := 2, cells := 6, slots := 68, locals := 28 } : Room).cells ({ frames := 2, cells := 6, slots := 68, locals := 28 } : Room).slots) pre0 ?_
  have K0 : Keep h0 h0 [] := Keep.refl h0 []
  have CR0 : CHr Z consts_1 s.vm h0 s.vm h0 := CHr.refl (show CHv Z consts_1 s.vm h0 from hCH)
  have hS0 : s.Since s.vm s.heap.size := (State.WarmedH.refl s).since _
  have hk0 : s.heap.size ≤ h0.size := Nat.le_of_eq (by rw [hh])
  obtain ⟨lit1, T1, h1, kn1, b1, kb1, X1, e1, E1, hS1, hk1, hZ, hown, Ex1, Fc1, Fv1, V1, -, -, CH1, -, -, st1⟩ := ldcCH X0 hx hZ hown (hw _ (List.mem_of_getElem? (i := 15) rfl)) (own_wS hw) e0 hS0 hk0 (own_EW hw) (List.mem_of_getElem? (i := 2) rfl) CR0.1 (vs := [.int (51 : Int32), .int (49 : Int32), .int (54 : Int32), .int (57 : Int32), .int (56 : Int32), .int (55 : Int32)]) (z := (6 : Int32)) ⟨by decide, rfl⟩ (by decide) rfl (g := (mkF m 0 #[.val (.ref a1), .val (.ref a2)] [])) rfl (hb hby d1_0) (n := 24) (by decide) (by decide) (by decide) (by decide)
  have u1_0 := T_a1.ext E1
  have u1_1 := (own_Str.exa T_a1).ext E1
  have u1_2 := T_a2.ext E1
  have u1_3 := (own_Str.exa T_a2).ext E1
  have Z1 : n0 ≤ h1.size := Nat.le_trans Z0 E1.1
  have K1 := K0.ext E1
  have OL1 := OLD.ext E1
  have CR1 := CR0.trans CH1
  have T_1 : own_Str Z h1 lit1 ([51, 49, 54, 57, 56, 55] : List Int32) := own_Str.of Ex1 Fv1 Fc1 V1 rfl rfl (by decide) (by decide)
  obtain ⟨ta2, ka2, na2, va2, xa2, fa2, ga2, ra2, da2, ba2, la2⟩ := id T_1
  obtain ⟨tb2, kb2, nb2, vb2, xb2, fb2, gb2, rb2, db2, bb2, lb2⟩ := id u1_2
  obtain ⟨cq2, kq2, q2a, q2b, q2c⟩ := isOf hZ e1 xa2
  obtain ⟨_, _, ⟨T2, L2, k2, n2⟩, -, X2, ⟨Lc2, hQ2, l2, y2, z2⟩, st2⟩ := X1.virtualBack hx (y := (⟨"java/lang/String", "equals", "(Ljava/lang/Object;)Z"⟩ : MethodName)) (z := (⟨"java/lang/String", "equals", "(Ljava/lang/Object;)Z"⟩ : MethodName)) hown (mvT hZ (hw _ (List.mem_of_getElem? (i := 16) rfl))) (mvT hZ (hw _ (List.mem_of_getElem? (i := 17) rfl))) (notFace_of_selects (args := #[]) (mvT hZ (hw _ (List.mem_of_getElem? (i := 19) rfl)))) (mvT hZ (hw _ (List.mem_of_getElem? (i := 19) rfl))) (mvT hZ (hw _ (List.mem_of_getElem? (i := 18) rfl))) (by decide) (StrChars.Road.eqW (W := 0) hZ (own_wEq hw) (kI := 4) (hw _ (List.mem_of_getElem? (i := 4) rfl)) xa2 fa2 ga2 ra2 da2 ba2 la2 xb2 fb2 gb2 rb2 db2 bb2 lb2 (Sta.ext OL1.2 hCS) hcz (by decide) (by decide)) q2a q2c (g := (mkF m 3 #[.val (.ref a1), .val (.ref a2)] [(.ref a2), (.ref lit1)])) rfl (by rw [hml]; rfl) (Steps.refl _) (argsL := [(.ref a2)]) (rest := []) (lenOf pd_0 rfl) rfl (by show 2 * 0 + _ ≤ _; exact Nat.le_of_eq rfl) (hb hby d1_3) (fun _ _ => ⟨rfl, e1, (by decide : 2 + 0 ≤ _), (by decide : 28 + 0 ≤ _)⟩)
  dsimp only [Pt.U, Pt.locs, Pt.cells, Pt.slots] at X2 l2 y2 z2 st2 hQ2
  subst l2 y2 z2
  obtain ⟨hv2, rfl, e2⟩ := hQ2
  obtain rfl := own_eqv hv2
  have N2 := Fr.app N0 (Fr.nil n0)
  refine own_step (B := T2.setTop (mkF m 6 #[.val (.ref a1), .val (.ref a2)] [(.int (own_eq ([51, 49, 54, 57, 56, 55] : List Int32) ds))])) (fun t k => ?_) ?_
  · show Steps p.tables e below (s₁.setTop (mkF m 0 #[.val (.ref a1), .val (.ref a2)] [])) _
    refine st1 _ ?_
    show Steps p.tables e below (T1.setTop (mkF m 2 #[.val (.ref a1), .val (.ref a2)] [(.ref lit1)])) _
    refine XS.aloadN X1.here hx rfl (hb hby d1_2) rfl rfl ?_
    show Steps p.tables e below (T1.setTop (mkF m 3 #[.val (.ref a1), .val (.ref a2)] [(.ref a2), (.ref lit1)])) _
    refine st2.trans ?_
    exact k
  by_cases h3 : (own_eq ([51, 49, 54, 57, 56, 55] : List Int32) ds) = (0 : Int32)
  · obtain ⟨fs, hr, hrun, hended, hREW⟩ := X2.leaveW hS1 (by rw [e2]; exact hk1) (v := some (.int (0 : Int32))) (fun h => by rw [Bd.returns] at h; cases h)
    refine ⟨_, _, ?_, hrun, hended, _, _, rfl, ?_, (show CHr Z consts_1 s.vm s.heap T2.vm T2.heap from by rw [hh, e2]; exact CR1.trans (CHv.at X2 hZ (own_EW hw) CR1.1)), hREW.1, hREW.2.1, hREW.2.2.1, hREW.2.2.2.mono (by decide) (by decide)⟩
    · show Steps p.tables e below (T2.setTop (mkF m 6 #[.val (.ref a1), .val (.ref a2)] [(.int (own_eq ([51, 49, 54, 57, 56, 55] : List Int32) ds))])) _
      refine XS.ifYes X2.here hx rfl (pc0 := 6) (pc' := 31) rfl (hb hby d1_6) rfl ((if0 _ _).trans (teq h3).1) (by decide) (by decide) ?_
      show Steps p.tables e below (T2.setTop (mkF m 31 #[.val (.ref a1), .val (.ref a2)] [])) _
      refine XS.iconst X2.here hx rfl (hb hby d1_31) ?_
      show Steps p.tables e below (T2.setTop (mkF m 32 #[.val (.ref a1), .val (.ref a2)] [(.int (0 : Int32))])) _
      exact retN X2 hx (t := .boolean) Bd.returns (by simp) (hb hby d1_32) hr
    · show Qpat Z a1 a2 cs ds cz h0 n0 _ T2.heap _
      rw [e2]
      have hf : fpat cs ds cz = (0 : Int32) := by simp only [fpat, if_pos h3]
      exact ⟨by rw [hf], N2, own_extK K1⟩
  · refine own_step (B := T2.setTop (mkF m 10 #[.val (.ref a1), .val (.ref a2)] [(.ref a1)])) (fun t k => ?_) ?_
    · show Steps p.tables e below (T2.setTop (mkF m 6 #[.val (.ref a1), .val (.ref a2)] [(.int (own_eq ([51, 49, 54, 57, 56, 55] : List Int32) ds))])) _
      refine XS.ifNo X2.here hx rfl (hb hby d1_6) rfl ((if0 _ _).trans (feq h3).1) ?_
      show Steps p.tables e below (T2.setTop (mkF m 9 #[.val (.ref a1), .val (.ref a2)] [])) _
      refine XS.aloadN X2.here hx rfl (hb hby d1_9) rfl rfl ?_
      exact k
    obtain ⟨lit4, T4, h4, kn4, b4, kb4, X4, e4, E4, hS4, hk4, hZ, hown, Ex4, Fc4, Fv4, V4, -, -, CH4, -, -, st4⟩ := ldcCH X2 hx hZ hown (hw _ (List.mem_of_getElem? (i := 21) rfl)) (own_wS hw) e2 hS1 hk1 (own_EW hw) (List.mem_of_getElem? (i := 0) rfl) CR1.1 (vs := [.int (49 : Int32), .int (56 : Int32), .int (49 : Int32), .int (57 : Int32)]) (z := (4 : Int32)) ⟨by decide, rfl⟩ (by decide) rfl (g := (mkF m 10 #[.val (.ref a1), .val (.ref a2)] [(.ref a1)])) rfl (hb hby d1_10) (n := 16) (by decide) (by decide) (by decide) (by decide)
    have u4_0 := u1_0.ext E4
    have u4_1 := u1_1.ext E4
    have u4_2 := u1_2.ext E4
    have u4_3 := u1_3.ext E4
    have u4_4 := T_1.ext E4
    have u4_5 := Ex1.ext E4
    have Z4 : n0 ≤ h4.size := Nat.le_trans Z1 E4.1
    have K4 := K1.ext E4
    have OL4 := OL1.ext E4
    have CR4 := CR1.trans CH4
    have T_4 : own_Str Z h4 lit4 ([49, 56, 49, 57] : List Int32) := own_Str.of Ex4 Fv4 Fc4 V4 rfl rfl (by decide) (by decide)
    obtain ⟨ta5, ka5, na5, va5, xa5, fa5, ga5, ra5, da5, ba5, la5⟩ := id u4_0
    obtain ⟨tb5, kb5, nb5, vb5, xb5, fb5, gb5, rb5, db5, bb5, lb5⟩ := id T_4
    obtain ⟨cq5, kq5, q5a, q5b, q5c⟩ := isOf hZ e4 xa5
    obtain ⟨_, _, ⟨T5, L5, k5, n5⟩, -, X5, ⟨Lc5, hQ5, l5, y5, z5⟩, st5⟩ := X4.virtualBack hx (y := (⟨"java/lang/String", "equals", "(Ljava/lang/Object;)Z"⟩ : MethodName)) (z := (⟨"java/lang/String", "equals", "(Ljava/lang/Object;)Z"⟩ : MethodName)) hown (mvT hZ (hw _ (List.mem_of_getElem? (i := 16) rfl))) (mvT hZ (hw _ (List.mem_of_getElem? (i := 17) rfl))) (notFace_of_selects (args := #[]) (mvT hZ (hw _ (List.mem_of_getElem? (i := 19) rfl)))) (mvT hZ (hw _ (List.mem_of_getElem? (i := 19) rfl))) (mvT hZ (hw _ (List.mem_of_getElem? (i := 18) rfl))) (by decide) (StrChars.Road.eqW (W := 0) hZ (own_wEq hw) (kI := 4) (hw _ (List.mem_of_getElem? (i := 4) rfl)) xa5 fa5 ga5 ra5 da5 ba5 la5 xb5 fb5 gb5 rb5 db5 bb5 lb5 (Sta.ext OL4.2 hCS) hcz (by decide) (by decide)) q5a q5c (g := (mkF m 12 #[.val (.ref a1), .val (.ref a2)] [(.ref lit4), (.ref a1)])) rfl (by rw [hml]; rfl) (Steps.refl _) (argsL := [(.ref lit4)]) (rest := []) (lenOf pd_0 rfl) rfl (by show 2 * 0 + _ ≤ _; exact Nat.le_of_eq rfl) (hb hby d1_12) (fun _ _ => ⟨rfl, e4, (by decide : 4 + 0 ≤ _), (by decide : 48 + 0 ≤ _)⟩)
    dsimp only [Pt.U, Pt.locs, Pt.cells, Pt.slots] at X5 l5 y5 z5 st5 hQ5
    subst l5 y5 z5
    obtain ⟨hv5, rfl, e5⟩ := hQ5
    obtain rfl := own_eqv hv5
    have N5 := Fr.app N2 (Fr.nil n0)
    refine own_step (B := T5.setTop (mkF m 15 #[.val (.ref a1), .val (.ref a2)] [(.int (own_eq cs ([49, 56, 49, 57] : List Int32)))])) (fun t k => ?_) ?_
    · show Steps p.tables e below (T2.setTop (mkF m 10 #[.val (.ref a1), .val (.ref a2)] [(.ref a1)])) _
      refine st4 _ ?_
      show Steps p.tables e below (T4.setTop (mkF m 12 #[.val (.ref a1), .val (.ref a2)] [(.ref lit4), (.ref a1)])) _
      refine st5.trans ?_
      exact k
    by_cases h6 : (own_eq cs ([49, 56, 49, 57] : List Int32)) = (0 : Int32)
    · refine own_step (B := T5.setTop (mkF m 19 #[.val (.ref a1), .val (.ref a2)] [(.ref a1)])) (fun t k => ?_) ?_
      · show Steps p.tables e below (T5.setTop (mkF m 15 #[.val (.ref a1), .val (.ref a2)] [(.int (own_eq cs ([49, 56, 49, 57] : List Int32)))])) _
        refine XS.ifNo X5.here hx rfl (hb hby d1_15) rfl ((if0 _ _).trans (teq h6).2) ?_
        show Steps p.tables e below (T5.setTop (mkF m 18 #[.val (.ref a1), .val (.ref a2)] [])) _
        refine XS.aloadN X5.here hx rfl (hb hby d1_18) rfl rfl ?_
        exact k
      obtain ⟨lit7, T7, h7, kn7, b7, kb7, X7, e7, E7, hS7, hk7, hZ, hown, Ex7, Fc7, Fv7, V7, -, -, CH7, -, -, st7⟩ := ldcCH X5 hx hZ hown (hw _ (List.mem_of_getElem? (i := 57) rfl)) (own_wS hw) e5 hS4 hk4 (own_EW hw) (List.mem_of_getElem? (i := 1) rfl) CR4.1 (vs := [.int (52 : Int32), .int (51 : Int32), .int (51 : Int32), .int (55 : Int32)]) (z := (4 : Int32)) ⟨by decide, rfl⟩ (by decide) rfl (g := (mkF m 19 #[.val (.ref a1), .val (.ref a2)] [(.ref a1)])) rfl (hb hby d1_19) (n := 16) (by decide) (by decide) (by decide) (by decide)
      have u7_0 := u4_0.ext E7
      have u7_1 := u4_1.ext E7
      have u7_2 := u4_2.ext E7
      have u7_3 := u4_3.ext E7
      have u7_4 := u4_4.ext E7
      have u7_5 := u4_5.ext E7
      have u7_6 := T_4.ext E7
      have u7_7 := Ex4.ext E7
      have Z7 : n0 ≤ h7.size := Nat.le_trans Z4 E7.1
      have K7 := K4.ext E7
      have OL7 := OL4.ext E7
      have CR7 := CR4.trans CH7
      have T_7 : own_Str Z h7 lit7 ([52, 51, 51, 55] : List Int32) := own_Str.of Ex7 Fv7 Fc7 V7 rfl rfl (by decide) (by decide)
      obtain ⟨ta8, ka8, na8, va8, xa8, fa8, ga8, ra8, da8, ba8, la8⟩ := id u7_0
      obtain ⟨tb8, kb8, nb8, vb8, xb8, fb8, gb8, rb8, db8, bb8, lb8⟩ := id T_7
      obtain ⟨cq8, kq8, q8a, q8b, q8c⟩ := isOf hZ e7 xa8
      obtain ⟨_, _, ⟨T8, L8, k8, n8⟩, -, X8, ⟨Lc8, hQ8, l8, y8, z8⟩, st8⟩ := X7.virtualBack hx (y := (⟨"java/lang/String", "equals", "(Ljava/lang/Object;)Z"⟩ : MethodName)) (z := (⟨"java/lang/String", "equals", "(Ljava/lang/Object;)Z"⟩ : MethodName)) hown (mvT hZ (hw _ (List.mem_of_getElem? (i := 16) rfl))) (mvT hZ (hw _ (List.mem_of_getElem? (i := 17) rfl))) (notFace_of_selects (args := #[]) (mvT hZ (hw _ (List.mem_of_getElem? (i := 19) rfl)))) (mvT hZ (hw _ (List.mem_of_getElem? (i := 19) rfl))) (mvT hZ (hw _ (List.mem_of_getElem? (i := 18) rfl))) (by decide) (StrChars.Road.eqW (W := 0) hZ (own_wEq hw) (kI := 4) (hw _ (List.mem_of_getElem? (i := 4) rfl)) xa8 fa8 ga8 ra8 da8 ba8 la8 xb8 fb8 gb8 rb8 db8 bb8 lb8 (Sta.ext OL7.2 hCS) hcz (by decide) (by decide)) q8a q8c (g := (mkF m 21 #[.val (.ref a1), .val (.ref a2)] [(.ref lit7), (.ref a1)])) rfl (by rw [hml]; rfl) (Steps.refl _) (argsL := [(.ref lit7)]) (rest := []) (lenOf pd_0 rfl) rfl (by show 2 * 0 + _ ≤ _; exact Nat.le_of_eq rfl) (hb hby d1_21) (fun _ _ => ⟨rfl, e7, (by decide : 6 + 0 ≤ _), (by decide : 68 + 0 ≤ _)⟩)
      dsimp only [Pt.U, Pt.locs, Pt.cells, Pt.slots] at X8 l8 y8 z8 st8 hQ8
      subst l8 y8 z8
      obtain ⟨hv8, rfl, e8⟩ := hQ8
      obtain rfl := own_eqv hv8
      have N8 := Fr.app N5 (Fr.nil n0)
      refine own_step (B := T8.setTop (mkF m 24 #[.val (.ref a1), .val (.ref a2)] [(.int (own_eq cs ([52, 51, 51, 55] : List Int32)))])) (fun t k => ?_) ?_
      · show Steps p.tables e below (T5.setTop (mkF m 19 #[.val (.ref a1), .val (.ref a2)] [(.ref a1)])) _
        refine st7 _ ?_
        show Steps p.tables e below (T7.setTop (mkF m 21 #[.val (.ref a1), .val (.ref a2)] [(.ref lit7), (.ref a1)])) _
        refine st8.trans ?_
        exact k
      by_cases h9 : (own_eq cs ([52, 51, 51, 55] : List Int32)) = (0 : Int32)
      · obtain ⟨fs, hr, hrun, hended, hREW⟩ := X8.leaveW hS7 (by rw [e8]; exact hk7) (v := some (.int (0 : Int32))) (fun h => by rw [Bd.returns] at h; cases h)
        refine ⟨_, _, ?_, hrun, hended, _, _, rfl, ?_, (show CHr Z consts_1 s.vm s.heap T8.vm T8.heap from by rw [hh, e8]; exact CR7.trans (CHv.at X8 hZ (own_EW hw) CR7.1)), hREW.1, hREW.2.1, hREW.2.2.1, hREW.2.2.2.mono (by decide) (by decide)⟩
        · show Steps p.tables e below (T8.setTop (mkF m 24 #[.val (.ref a1), .val (.ref a2)] [(.int (own_eq cs ([52, 51, 51, 55] : List Int32)))])) _
          refine XS.ifYes X8.here hx rfl (pc0 := 24) (pc' := 31) rfl (hb hby d1_24) rfl ((if0 _ _).trans (teq h9).1) (by decide) (by decide) ?_
          show Steps p.tables e below (T8.setTop (mkF m 31 #[.val (.ref a1), .val (.ref a2)] [])) _
          refine XS.iconst X8.here hx rfl (hb hby d1_31) ?_
          show Steps p.tables e below (T8.setTop (mkF m 32 #[.val (.ref a1), .val (.ref a2)] [(.int (0 : Int32))])) _
          exact retN X8 hx (t := .boolean) Bd.returns (by simp) (hb hby d1_32) hr
        · show Qpat Z a1 a2 cs ds cz h0 n0 _ T8.heap _
          rw [e8]
          have hf : fpat cs ds cz = (0 : Int32) := by simp only [fpat, if_neg h3, if_pos h6, if_pos h9]
          exact ⟨by rw [hf], N8, own_extK K7⟩
      · obtain ⟨fs, hr, hrun, hended, hREW⟩ := X8.leaveW hS7 (by rw [e8]; exact hk7) (v := some (.int (1 : Int32))) (fun h => by rw [Bd.returns] at h; cases h)
        refine ⟨_, _, ?_, hrun, hended, _, _, rfl, ?_, (show CHr Z consts_1 s.vm s.heap T8.vm T8.heap from by rw [hh, e8]; exact CR7.trans (CHv.at X8 hZ (own_EW hw) CR7.1)), hREW.1, hREW.2.1, hREW.2.2.1, hREW.2.2.2.mono (by decide) (by decide)⟩
        · show Steps p.tables e below (T8.setTop (mkF m 24 #[.val (.ref a1), .val (.ref a2)] [(.int (own_eq cs ([52, 51, 51, 55] : List Int32)))])) _
          refine XS.ifNo X8.here hx rfl (hb hby d1_24) rfl ((if0 _ _).trans (feq h9).1) ?_
          show Steps p.tables e below (T8.setTop (mkF m 27 #[.val (.ref a1), .val (.ref a2)] [])) _
          refine XS.iconst X8.here hx rfl (hb hby d1_27) ?_
          show Steps p.tables e below (T8.setTop (mkF m 28 #[.val (.ref a1), .val (.ref a2)] [(.int (1 : Int32))])) _
          refine XS.goto X8.here hx rfl (pc0 := 28) (pc' := 32) rfl (hb hby d1_28) (by decide) (by decide) ?_
          show Steps p.tables e below (T8.setTop (mkF m 32 #[.val (.ref a1), .val (.ref a2)] [(.int (1 : Int32))])) _
          exact retN X8 hx (t := .boolean) Bd.returns (by simp) (hb hby d1_32) hr
        · show Qpat Z a1 a2 cs ds cz h0 n0 _ T8.heap _
          rw [e8]
          have hf : fpat cs ds cz = (1 : Int32) := by simp only [fpat, if_neg h3, if_pos h6, if_neg h9]
          exact ⟨by rw [hf], N8, own_extK K7⟩
    · obtain ⟨fs, hr, hrun, hended, hREW⟩ := X5.leaveW hS4 (by rw [e5]; exact hk4) (v := some (.int (1 : Int32))) (fun h => by rw [Bd.returns] at h; cases h)
      refine ⟨_, _, ?_, hrun, hended, _, _, rfl, ?_, (show CHr Z consts_1 s.vm s.heap T5.vm T5.heap from by rw [hh, e5]; exact CR4.trans (CHv.at X5 hZ (own_EW hw) CR4.1)), hREW.1, hREW.2.1, hREW.2.2.1, hREW.2.2.2.mono (by decide) (by decide)⟩
      · show Steps p.tables e below (T5.setTop (mkF m 15 #[.val (.ref a1), .val (.ref a2)] [(.int (own_eq cs ([49, 56, 49, 57] : List Int32)))])) _
        refine XS.ifYes X5.here hx rfl (pc0 := 15) (pc' := 27) rfl (hb hby d1_15) rfl ((if0 _ _).trans (feq h6).2) (by decide) (by decide) ?_
        show Steps p.tables e below (T5.setTop (mkF m 27 #[.val (.ref a1), .val (.ref a2)] [])) _
        refine XS.iconst X5.here hx rfl (hb hby d1_27) ?_
        show Steps p.tables e below (T5.setTop (mkF m 28 #[.val (.ref a1), .val (.ref a2)] [(.int (1 : Int32))])) _
        refine XS.goto X5.here hx rfl (pc0 := 28) (pc' := 32) rfl (hb hby d1_28) (by decide) (by decide) ?_
        show Steps p.tables e below (T5.setTop (mkF m 32 #[.val (.ref a1), .val (.ref a2)] [(.int (1 : Int32))])) _
        exact retN X5 hx (t := .boolean) Bd.returns (by simp) (hb hby d1_32) hr
      · show Qpat Z a1 a2 cs ds cz h0 n0 _ T5.heap _
        rw [e5]
        have hf : fpat cs ds cz = (1 : Int32) := by simp only [fpat, if_neg h3, if_neg h6]
        exact ⟨by rw [hf], N5, own_extK K4⟩
theorem pn_patn : plainName "com/example/medspan/medspan/Opioids" = true := by first | (simp [plainName, overriddenIn]; done) | decide +kernel
theorem ef_patn (m : MethodId) (a1 : Addr) : entryFrame m #[(.ref a1), .null] 2 = mkF m 0 #[.val (.ref a1), .val .null] [] := by first | (simp [entryFrame, mkF, argsToLocals, Value.category]; done) | rfl
def Qpatn (Z : State) (a1 : Addr) (cs : List Int32) (cz : Int32) (h0 : Heap) (n0 : Nat) (v : Option Value) (h : Heap) (L : List Loc) : Prop := v = some (.int (fpatn cs cz)) ∧ Fr n0 L ∧ Ext h0 h
set_option maxRecDepth 65536 in
set_option maxHeartbeats 40000000 in
theorem rmpatn (l : Launch) (Z : State) (a0 : Array Value) (hw : ∀ d ∈ tables_1, d.before a0 Z = true) (ws : List Jvm.Cond) (a1 : Addr) (cs : List Int32) (cz : Int32) (h0 : Heap) (n0 : Nat) (Z0 : n0 ≤ h0.size) (OLD : Old Z n0 h0) (T_a1 : own_Str Z h0 a1 cs) (hCS : Sta Z Z.heap "java/lang/String" "COMPACT_STRINGS" "Z" (.int cz)) (hcz : ¬ cz = 0) :
    MetFree l (⟨"com/example/medspan/medspan/Opioids", "isPatch", "(Ljava/lang/String;Ljava/lang/String;)Z"⟩ : MethodName) (head1 (Jvm.Cond.code (⟨"com/example/medspan/medspan/Opioids", "isPatch", "(Ljava/lang/String;Ljava/lang/String;)Z"⟩ : MethodName) prog_23_method_3_code 2 (some .boolean) :: ws) ({ frames := 2, cells := 6, slots := 68, locals := 28 } : Room)) (fun a U => a = #[(.ref a1), .null] ∧ Z.Warmed39 U.vm ∧ U.heap = h0 ∧ CHv Z consts_1 U.vm h0) (fun _ _ _ _ _ => True) (fun _ U o U' => ∃ v L, o = .returned v ∧ Qpatn Z a1 cs cz h0 n0 v U'.heap L ∧ CHr Z consts_1 U.vm U.heap U'.vm U'.heap ∧ ReturnedEndW U o U' L ({ frames := 2, cells := 6, slots := 68, locals := 28 } : Room).cells ({ frames := 2, cells := 6, slots := 68, locals := 28 } : Room).slots) := by
  refine MetFree.of_bodySF (plainFor_of_name pn_patn) hisR ?_
  intro p e s m args below meth c s₁ Bd hml0 hP hK
  obtain ⟨rfl, hZ0, hh, hCH⟩ := hP
  have hZ : Z.Warmed39 (s.setVm s.vm).vm := hZ0
  have hx := Bd.exec
  have hby := Bd.bytes
  have hml : c.maxLocals = 2 := hml0
  have hown : (s.setVm s.vm).vm.findClass "com/example/medspan/medspan/Opioids" = some m.cls := findClass_of_methodNamed Bd.named
  have hnm := (name_of_methodNamed Bd.named Bd.method).1
  have X0 : Stand p l e ({ frames := 2, cells := 6, slots := 68, locals := 28 } : Room) (s.setVm s.vm) m #[(.ref a1), .null] below meth c s₁ [] 0 0 := Stand.of_body Bd
  have e0 : s₁.heap = h0 := by rw [← hh, Bd.state]; rfl
  have N0 := Fr.nil n0
  have pre0 : ∀ t, Steps p.tables e below (s₁.setTop (mkF m 0 #[.val (.ref a1), .val .null] [])) t → Steps p.tables e below (s₁.setTop (entryFrame m #[(.ref a1), .null] 2)) t := fun t k => castTop (ef_patn m a1) k
  refine own_step (Q := fun o U' => ∃ v L, o = .returned v ∧ Qpatn Z a1 cs cz h0 n0 v U'.heap L ∧ CHr Z consts_1 s.vm s.heap U'.vm U'.heap ∧ ReturnedEndW s o U' L ({ frames := 2, cells := 6, slots := 68, locals := 28 } : Room).cells ({ frames := 2, cells := 6, slots := 68, locals := 28 } : Room).slots) pre0 ?_
  have K0 : Keep h0 h0 [] := Keep.refl h0 []
  have CR0 : CHr Z consts_1 s.vm h0 s.vm h0 := CHr.refl (show CHv Z consts_1 s.vm h0 from hCH)
  have hS0 : s.Since s.vm s.heap.size := (State.WarmedH.refl s).since _
  have hk0 : s.heap.size ≤ h0.size := Nat.le_of_eq (by rw [hh])
  obtain ⟨lit1, T1, h1, kn1, b1, kb1, X1, e1, E1, hS1, hk1, hZ, hown, Ex1, Fc1, Fv1, V1, -, -, CH1, -, -, st1⟩ := ldcCH X0 hx hZ hown (hw _ (List.mem_of_getElem? (i := 15) rfl)) (own_wS hw) e0 hS0 hk0 (own_EW hw) (List.mem_of_getElem? (i := 2) rfl) CR0.1 (vs := [.int (51 : Int32), .int (49 : Int32), .int (54 : Int32), .int (57 : Int32), .int (56 : Int32), .int (55 : Int32)]) (z := (6 : Int32)) ⟨by decide, rfl⟩ (by decide) rfl (g := (mkF m 0 #[.val (.ref a1), .val .null] [])) rfl (hb hby d1_0) (n := 24) (by decide) (by decide) (by decide) (by decide)
  have u1_0 := T_a1.ext E1
  have u1_1 := (own_Str.exa T_a1).ext E1
  have Z1 : n0 ≤ h1.size := Nat.le_trans Z0 E1.1
  have K1 := K0.ext E1
  have OL1 := OLD.ext E1
  have CR1 := CR0.trans CH1
  have T_1 : own_Str Z h1 lit1 ([51, 49, 54, 57, 56, 55] : List Int32) := own_Str.of Ex1 Fv1 Fc1 V1 rfl rfl (by decide) (by decide)
  obtain ⟨cq2, kq2, q2a, q2b, q2c⟩ := isOf hZ e1 Ex1
  obtain ⟨_, _, ⟨T2, L2, k2, n2⟩, -, X2, ⟨Lc2, hQ2, l2, y2, z2⟩, st2⟩ := X1.virtualBack hx (y := (⟨"java/lang/String", "equals", "(Ljava/lang/Object;)Z"⟩ : MethodName)) (z := (⟨"java/lang/String", "equals", "(Ljava/lang/Object;)Z"⟩ : MethodName)) hown (mvT hZ (hw _ (List.mem_of_getElem? (i := 16) rfl))) (mvT hZ (hw _ (List.mem_of_getElem? (i := 17) rfl))) (notFace_of_selects (args := #[]) (mvT hZ (hw _ (List.mem_of_getElem? (i := 19) rfl)))) (mvT hZ (hw _ (List.mem_of_getElem? (i := 19) rfl))) (mvT hZ (hw _ (List.mem_of_getElem? (i := 18) rfl))) (by decide) (backOf (W := 0) (rmeqn l Z a0 hw [] lit1 h1 n0 Z1) hZ (hw _ (List.mem_of_getElem? (i := 20) rfl)) (hw _ (List.mem_of_getElem? (i := 3) rfl)) (by decide) (by decide)) q2a q2c (g := (mkF m 3 #[.val (.ref a1), .val .null] [.null, (.ref lit1)])) rfl (by rw [hml]; rfl) (Steps.refl _) (argsL := [.null]) (rest := []) (lenOf pd_0 rfl) rfl (by show 2 * 0 + _ ≤ _; exact Nat.le_of_eq rfl) (hb hby d1_3) (fun _ _ => ⟨rfl, e1, (by decide : 2 + 0 ≤ _), (by decide : 28 + 0 ≤ _)⟩)
  dsimp only [Pt.U, Pt.locs, Pt.cells, Pt.slots] at X2 l2 y2 z2 st2 hQ2
  subst l2 y2 z2
  obtain ⟨rfl, N2q, e2⟩ := hQ2
  have N2 := Fr.app N0 N2q
  refine own_step (B := T2.setTop (mkF m 6 #[.val (.ref a1), .val .null] [(.int (feqn))])) (fun t k => ?_) ?_
  · show Steps p.tables e below (s₁.setTop (mkF m 0 #[.val (.ref a1), .val .null] [])) _
    refine st1 _ ?_
    show Steps p.tables e below (T1.setTop (mkF m 2 #[.val (.ref a1), .val .null] [(.ref lit1)])) _
    refine XS.aloadN X1.here hx rfl (hb hby d1_2) rfl rfl ?_
    show Steps p.tables e below (T1.setTop (mkF m 3 #[.val (.ref a1), .val .null] [.null, (.ref lit1)])) _
    refine st2.trans ?_
    exact k
  by_cases h3 : (feqn) = (0 : Int32)
  · obtain ⟨fs, hr, hrun, hended, hREW⟩ := X2.leaveW hS1 (by rw [e2]; exact hk1) (v := some (.int (0 : Int32))) (fun h => by rw [Bd.returns] at h; cases h)
    refine ⟨_, _, ?_, hrun, hended, _, _, rfl, ?_, (show CHr Z consts_1 s.vm s.heap T2.vm T2.heap from by rw [hh, e2]; exact CR1.trans (CHv.at X2 hZ (own_EW hw) CR1.1)), hREW.1, hREW.2.1, hREW.2.2.1, hREW.2.2.2.mono (by decide) (by decide)⟩
    · show Steps p.tables e below (T2.setTop (mkF m 6 #[.val (.ref a1), .val .null] [(.int (feqn))])) _
      refine XS.ifYes X2.here hx rfl (pc0 := 6) (pc' := 31) rfl (hb hby d1_6) rfl ((if0 _ _).trans (teq h3).1) (by decide) (by decide) ?_
      show Steps p.tables e below (T2.setTop (mkF m 31 #[.val (.ref a1), .val .null] [])) _
      refine XS.iconst X2.here hx rfl (hb hby d1_31) ?_
      show Steps p.tables e below (T2.setTop (mkF m 32 #[.val (.ref a1), .val .null] [(.int (0 : Int32))])) _
      exact retN X2 hx (t := .boolean) Bd.returns (by simp) (hb hby d1_32) hr
    · show Qpatn Z a1 cs cz h0 n0 _ T2.heap _
      rw [e2]
      have hf : fpatn cs cz = (0 : Int32) := by simp only [fpatn, if_pos h3]
      exact ⟨by rw [hf], N2, own_extK K1⟩
  · refine own_step (B := T2.setTop (mkF m 10 #[.val (.ref a1), .val .null] [(.ref a1)])) (fun t k => ?_) ?_
    · show Steps p.tables e below (T2.setTop (mkF m 6 #[.val (.ref a1), .val .null] [(.int (feqn))])) _
      refine XS.ifNo X2.here hx rfl (hb hby d1_6) rfl ((if0 _ _).trans (feq h3).1) ?_
      show Steps p.tables e below (T2.setTop (mkF m 9 #[.val (.ref a1), .val .null] [])) _
      refine XS.aloadN X2.here hx rfl (hb hby d1_9) rfl rfl ?_
      exact k
    obtain ⟨lit4, T4, h4, kn4, b4, kb4, X4, e4, E4, hS4, hk4, hZ, hown, Ex4, Fc4, Fv4, V4, -, -, CH4, -, -, st4⟩ := ldcCH X2 hx hZ hown (hw _ (List.mem_of_getElem? (i := 21) rfl)) (own_wS hw) e2 hS1 hk1 (own_EW hw) (List.mem_of_getElem? (i := 0) rfl) CR1.1 (vs := [.int (49 : Int32), .int (56 : Int32), .int (49 : Int32), .int (57 : Int32)]) (z := (4 : Int32)) ⟨by decide, rfl⟩ (by decide) rfl (g := (mkF m 10 #[.val (.ref a1), .val .null] [(.ref a1)])) rfl (hb hby d1_10) (n := 16) (by decide) (by decide) (by decide) (by decide)
    have u4_0 := u1_0.ext E4
    have u4_1 := u1_1.ext E4
    have u4_2 := T_1.ext E4
    have u4_3 := Ex1.ext E4
    have Z4 : n0 ≤ h4.size := Nat.le_trans Z1 E4.1
    have K4 := K1.ext E4
    have OL4 := OL1.ext E4
    have CR4 := CR1.trans CH4
    have T_4 : own_Str Z h4 lit4 ([49, 56, 49, 57] : List Int32) := own_Str.of Ex4 Fv4 Fc4 V4 rfl rfl (by decide) (by decide)
    obtain ⟨ta5, ka5, na5, va5, xa5, fa5, ga5, ra5, da5, ba5, la5⟩ := id u4_0
    obtain ⟨tb5, kb5, nb5, vb5, xb5, fb5, gb5, rb5, db5, bb5, lb5⟩ := id T_4
    obtain ⟨cq5, kq5, q5a, q5b, q5c⟩ := isOf hZ e4 xa5
    obtain ⟨_, _, ⟨T5, L5, k5, n5⟩, -, X5, ⟨Lc5, hQ5, l5, y5, z5⟩, st5⟩ := X4.virtualBack hx (y := (⟨"java/lang/String", "equals", "(Ljava/lang/Object;)Z"⟩ : MethodName)) (z := (⟨"java/lang/String", "equals", "(Ljava/lang/Object;)Z"⟩ : MethodName)) hown (mvT hZ (hw _ (List.mem_of_getElem? (i := 16) rfl))) (mvT hZ (hw _ (List.mem_of_getElem? (i := 17) rfl))) (notFace_of_selects (args := #[]) (mvT hZ (hw _ (List.mem_of_getElem? (i := 19) rfl)))) (mvT hZ (hw _ (List.mem_of_getElem? (i := 19) rfl))) (mvT hZ (hw _ (List.mem_of_getElem? (i := 18) rfl))) (by decide) (StrChars.Road.eqW (W := 0) hZ (own_wEq hw) (kI := 4) (hw _ (List.mem_of_getElem? (i := 4) rfl)) xa5 fa5 ga5 ra5 da5 ba5 la5 xb5 fb5 gb5 rb5 db5 bb5 lb5 (Sta.ext OL4.2 hCS) hcz (by decide) (by decide)) q5a q5c (g := (mkF m 12 #[.val (.ref a1), .val .null] [(.ref lit4), (.ref a1)])) rfl (by rw [hml]; rfl) (Steps.refl _) (argsL := [(.ref lit4)]) (rest := []) (lenOf pd_0 rfl) rfl (by show 2 * 0 + _ ≤ _; exact Nat.le_of_eq rfl) (hb hby d1_12) (fun _ _ => ⟨rfl, e4, (by decide : 4 + 0 ≤ _), (by decide : 48 + 0 ≤ _)⟩)
    dsimp only [Pt.U, Pt.locs, Pt.cells, Pt.slots] at X5 l5 y5 z5 st5 hQ5
    subst l5 y5 z5
    obtain ⟨hv5, rfl, e5⟩ := hQ5
    obtain rfl := own_eqv hv5
    have N5 := Fr.app N2 (Fr.nil n0)
    refine own_step (B := T5.setTop (mkF m 15 #[.val (.ref a1), .val .null] [(.int (own_eq cs ([49, 56, 49, 57] : List Int32)))])) (fun t k => ?_) ?_
    · show Steps p.tables e below (T2.setTop (mkF m 10 #[.val (.ref a1), .val .null] [(.ref a1)])) _
      refine st4 _ ?_
      show Steps p.tables e below (T4.setTop (mkF m 12 #[.val (.ref a1), .val .null] [(.ref lit4), (.ref a1)])) _
      refine st5.trans ?_
      exact k
    by_cases h6 : (own_eq cs ([49, 56, 49, 57] : List Int32)) = (0 : Int32)
    · refine own_step (B := T5.setTop (mkF m 19 #[.val (.ref a1), .val .null] [(.ref a1)])) (fun t k => ?_) ?_
      · show Steps p.tables e below (T5.setTop (mkF m 15 #[.val (.ref a1), .val .null] [(.int (own_eq cs ([49, 56, 49, 57] : List Int32)))])) _
        refine XS.ifNo X5.here hx rfl (hb hby d1_15) rfl ((if0 _ _).trans (teq h6).2) ?_
        show Steps p.tables e below (T5.setTop (mkF m 18 #[.val (.ref a1), .val .null] [])) _
        refine XS.aloadN X5.here hx rfl (hb hby d1_18) rfl rfl ?_
        exact k
      obtain ⟨lit7, T7, h7, kn7, b7, kb7, X7, e7, E7, hS7, hk7, hZ, hown, Ex7, Fc7, Fv7, V7, -, -, CH7, -, -, st7⟩ := ldcCH X5 hx hZ hown (hw _ (List.mem_of_getElem? (i := 57) rfl)) (own_wS hw) e5 hS4 hk4 (own_EW hw) (List.mem_of_getElem? (i := 1) rfl) CR4.1 (vs := [.int (52 : Int32), .int (51 : Int32), .int (51 : Int32), .int (55 : Int32)]) (z := (4 : Int32)) ⟨by decide, rfl⟩ (by decide) rfl (g := (mkF m 19 #[.val (.ref a1), .val .null] [(.ref a1)])) rfl (hb hby d1_19) (n := 16) (by decide) (by decide) (by decide) (by decide)
      have u7_0 := u4_0.ext E7
      have u7_1 := u4_1.ext E7
      have u7_2 := u4_2.ext E7
      have u7_3 := u4_3.ext E7
      have u7_4 := T_4.ext E7
      have u7_5 := Ex4.ext E7
      have Z7 : n0 ≤ h7.size := Nat.le_trans Z4 E7.1
      have K7 := K4.ext E7
      have OL7 := OL4.ext E7
      have CR7 := CR4.trans CH7
      have T_7 : own_Str Z h7 lit7 ([52, 51, 51, 55] : List Int32) := own_Str.of Ex7 Fv7 Fc7 V7 rfl rfl (by decide) (by decide)
      obtain ⟨ta8, ka8, na8, va8, xa8, fa8, ga8, ra8, da8, ba8, la8⟩ := id u7_0
      obtain ⟨tb8, kb8, nb8, vb8, xb8, fb8, gb8, rb8, db8, bb8, lb8⟩ := id T_7
      obtain ⟨cq8, kq8, q8a, q8b, q8c⟩ := isOf hZ e7 xa8
      obtain ⟨_, _, ⟨T8, L8, k8, n8⟩, -, X8, ⟨Lc8, hQ8, l8, y8, z8⟩, st8⟩ := X7.virtualBack hx (y := (⟨"java/lang/String", "equals", "(Ljava/lang/Object;)Z"⟩ : MethodName)) (z := (⟨"java/lang/String", "equals", "(Ljava/lang/Object;)Z"⟩ : MethodName)) hown (mvT hZ (hw _ (List.mem_of_getElem? (i := 16) rfl))) (mvT hZ (hw _ (List.mem_of_getElem? (i := 17) rfl))) (notFace_of_selects (args := #[]) (mvT hZ (hw _ (List.mem_of_getElem? (i := 19) rfl)))) (mvT hZ (hw _ (List.mem_of_getElem? (i := 19) rfl))) (mvT hZ (hw _ (List.mem_of_getElem? (i := 18) rfl))) (by decide) (StrChars.Road.eqW (W := 0) hZ (own_wEq hw) (kI := 4) (hw _ (List.mem_of_getElem? (i := 4) rfl)) xa8 fa8 ga8 ra8 da8 ba8 la8 xb8 fb8 gb8 rb8 db8 bb8 lb8 (Sta.ext OL7.2 hCS) hcz (by decide) (by decide)) q8a q8c (g := (mkF m 21 #[.val (.ref a1), .val .null] [(.ref lit7), (.ref a1)])) rfl (by rw [hml]; rfl) (Steps.refl _) (argsL := [(.ref lit7)]) (rest := []) (lenOf pd_0 rfl) rfl (by show 2 * 0 + _ ≤ _; exact Nat.le_of_eq rfl) (hb hby d1_21) (fun _ _ => ⟨rfl, e7, (by decide : 6 + 0 ≤ _), (by decide : 68 + 0 ≤ _)⟩)
      dsimp only [Pt.U, Pt.locs, Pt.cells, Pt.slots] at X8 l8 y8 z8 st8 hQ8
      subst l8 y8 z8
      obtain ⟨hv8, rfl, e8⟩ := hQ8
      obtain rfl := own_eqv hv8
      have N8 := Fr.app N5 (Fr.nil n0)
      refine own_step (B := T8.setTop (mkF m 24 #[.val (.ref a1), .val .null] [(.int (own_eq cs ([52, 51, 51, 55] : List Int32)))])) (fun t k => ?_) ?_
      · show Steps p.tables e below (T5.setTop (mkF m 19 #[.val (.ref a1), .val .null] [(.ref a1)])) _
        refine st7 _ ?_
        show Steps p.tables e below (T7.setTop (mkF m 21 #[.val (.ref a1), .val .null] [(.ref lit7), (.ref a1)])) _
        refine st8.trans ?_
        exact k
      by_cases h9 : (own_eq cs ([52, 51, 51, 55] : List Int32)) = (0 : Int32)
      · obtain ⟨fs, hr, hrun, hended, hREW⟩ := X8.leaveW hS7 (by rw [e8]; exact hk7) (v := some (.int (0 : Int32))) (fun h => by rw [Bd.returns] at h; cases h)
        refine ⟨_, _, ?_, hrun, hended, _, _, rfl, ?_, (show CHr Z consts_1 s.vm s.heap T8.vm T8.heap from by rw [hh, e8]; exact CR7.trans (CHv.at X8 hZ (own_EW hw) CR7.1)), hREW.1, hREW.2.1, hREW.2.2.1, hREW.2.2.2.mono (by decide) (by decide)⟩
        · show Steps p.tables e below (T8.setTop (mkF m 24 #[.val (.ref a1), .val .null] [(.int (own_eq cs ([52, 51, 51, 55] : List Int32)))])) _
          refine XS.ifYes X8.here hx rfl (pc0 := 24) (pc' := 31) rfl (hb hby d1_24) rfl ((if0 _ _).trans (teq h9).1) (by decide) (by decide) ?_
          show Steps p.tables e below (T8.setTop (mkF m 31 #[.val (.ref a1), .val .null] [])) _
          refine XS.iconst X8.here hx rfl (hb hby d1_31) ?_
          show Steps p.tables e below (T8.setTop (mkF m 32 #[.val (.ref a1), .val .null] [(.int (0 : Int32))])) _
          exact retN X8 hx (t := .boolean) Bd.returns (by simp) (hb hby d1_32) hr
        · show Qpatn Z a1 cs cz h0 n0 _ T8.heap _
          rw [e8]
          have hf : fpatn cs cz = (0 : Int32) := by simp only [fpatn, if_neg h3, if_pos h6, if_pos h9]
          exact ⟨by rw [hf], N8, own_extK K7⟩
      · obtain ⟨fs, hr, hrun, hended, hREW⟩ := X8.leaveW hS7 (by rw [e8]; exact hk7) (v := some (.int (1 : Int32))) (fun h => by rw [Bd.returns] at h; cases h)
        refine ⟨_, _, ?_, hrun, hended, _, _, rfl, ?_, (show CHr Z consts_1 s.vm s.heap T8.vm T8.heap from by rw [hh, e8]; exact CR7.trans (CHv.at X8 hZ (own_EW hw) CR7.1)), hREW.1, hREW.2.1, hREW.2.2.1, hREW.2.2.2.mono (by decide) (by decide)⟩
        · show Steps p.tables e below (T8.setTop (mkF m 24 #[.val (.ref a1), .val .null] [(.int (own_eq cs ([52, 51, 51, 55] : List Int32)))])) _
          refine XS.ifNo X8.here hx rfl (hb hby d1_24) rfl ((if0 _ _).trans (feq h9).1) ?_
          show Steps p.tables e below (T8.setTop (mkF m 27 #[.val (.ref a1), .val .null] [])) _
          refine XS.iconst X8.here hx rfl (hb hby d1_27) ?_
          show Steps p.tables e below (T8.setTop (mkF m 28 #[.val (.ref a1), .val .null] [(.int (1 : Int32))])) _
          refine XS.goto X8.here hx rfl (pc0 := 28) (pc' := 32) rfl (hb hby d1_28) (by decide) (by decide) ?_
          show Steps p.tables e below (T8.setTop (mkF m 32 #[.val (.ref a1), .val .null] [(.int (1 : Int32))])) _
          exact retN X8 hx (t := .boolean) Bd.returns (by simp) (hb hby d1_32) hr
        · show Qpatn Z a1 cs cz h0 n0 _ T8.heap _
          rw [e8]
          have hf : fpatn cs cz = (1 : Int32) := by simp only [fpatn, if_neg h3, if_pos h6, if_neg h9]
          exact ⟨by rw [hf], N8, own_extK K7⟩
    · obtain ⟨fs, hr, hrun, hended, hREW⟩ := X5.leaveW hS4 (by rw [e5]; exact hk4) (v := some (.int (1 : Int32))) (fun h => by rw [Bd.returns] at h; cases h)
      refine ⟨_, _, ?_, hrun, hended, _, _, rfl, ?_, (show CHr Z consts_1 s.vm s.heap T5.vm T5.heap from by rw [hh, e5]; exact CR4.trans (CHv.at X5 hZ (own_EW hw) CR4.1)), hREW.1, hREW.2.1, hREW.2.2.1, hREW.2.2.2.mono (by decide) (by decide)⟩
      · show Steps p.tables e below (T5.setTop (mkF m 15 #[.val (.ref a1), .val .null] [(.int (own_eq cs ([49, 56, 49, 57] : List Int32)))])) _
        refine XS.ifYes X5.here hx rfl (pc0 := 15) (pc' := 27) rfl (hb hby d1_15) rfl ((if0 _ _).trans (feq h6).2) (by decide) (by decide) ?_
        show Steps p.tables e below (T5.setTop (mkF m 27 #[.val (.ref a1), .val .null] [])) _
        refine XS.iconst X5.here hx rfl (hb hby d1_27) ?_
        show Steps p.tables e below (T5.setTop (mkF m 28 #[.val (.ref a1), .val .null] [(.int (1 : Int32))])) _
        refine XS.goto X5.here hx rfl (pc0 := 28) (pc' := 32) rfl (hb hby d1_28) (by decide) (by decide) ?_
        show Steps p.tables e below (T5.setTop (mkF m 32 #[.val (.ref a1), .val .null] [(.int (1 : Int32))])) _
        exact retN X5 hx (t := .boolean) Bd.returns (by simp) (hb hby d1_32) hr
      · show Qpatn Z a1 cs cz h0 n0 _ T5.heap _
        rw [e5]
        have hf : fpatn cs cz = (1 : Int32) := by simp only [fpatn, if_neg h3, if_neg h6]
        exact ⟨by rw [hf], N5, own_extK K4⟩
theorem pn_0 : plainName "com/example/medspan/medspan/OpioidsIsPatchPinLaw" = true := by first | (simp [plainName, overriddenIn]; done) | decide +kernel
theorem ef_0 (m : MethodId) (p1 : Int32) (p2 : Int32) (q3 : Int64) : entryFrame m #[(.int p1), (.int p2), (.long q3)] maxLocals = mkF m 0 #[.val (.int p1), .val (.int p2), .val (.long q3), .second, .unset, .unset, .unset, .unset, .unset, .unset, .unset, .unset] [] := by first | (simp [entryFrame, mkF, argsToLocals, Value.category, maxLocals]; done) | rfl
def Q0 (Z : State) (p1 : Int32) (p2 : Int32) (q3 : Int64) (cz : Int32) (h0 : Heap) (n0 : Nat) (v : Option Value) (h : Heap) (L : List Loc) : Prop := v = some (.int (1 : Int32)) ∧ Fr n0 L
set_option maxRecDepth 65536 in
set_option maxHeartbeats 40000000 in
theorem rm0 (l : Launch) (Z : State) (a0 : Array Value) (hw : ∀ d ∈ tables_1, d.before a0 Z = true) (ws : List Jvm.Cond) (p1 : Int32) (p2 : Int32) (q3 : Int64) (cz : Int32) (h0 : Heap) (n0 : Nat) (Z0 : n0 ≤ h0.size) (OLD : Old Z n0 h0) (hCS : Sta Z Z.heap "java/lang/String" "COMPACT_STRINGS" "Z" (.int cz)) (hcz : ¬ cz = 0) :
    MetFree l x (head1 (Jvm.Cond.code x code maxLocals ret :: ws) room_1) (fun a U => a = #[(.int p1), (.int p2), (.long q3)] ∧ Z.Warmed39 U.vm ∧ U.heap = h0 ∧ CHv Z consts_1 U.vm h0) (fun _ _ _ _ _ => True) (fun _ U o U' => ∃ v L, o = .returned v ∧ Q0 Z p1 p2 q3 cz h0 n0 v U'.heap L ∧ CHr Z consts_1 U.vm U.heap U'.vm U'.heap ∧ ReturnedEndW U o U' L room_1.cells room_1.slots) := by
  refine MetFree.of_bodySF (plainFor_of_name pn_0) hisR ?_
  intro p e s m args below meth c s₁ Bd hml0 hP hK
  obtain ⟨rfl, hZ0, hh, hCH⟩ := hP
  have hZ : Z.Warmed39 (s.setVm s.vm).vm := hZ0
  have hx := Bd.exec
  have hby := Bd.bytes
  have hml : c.maxLocals = 12 := hml0
  have hown : (s.setVm s.vm).vm.findClass "com/example/medspan/medspan/OpioidsIsPatchPinLaw" = some m.cls := findClass_of_methodNamed Bd.named
  have hnm := (name_of_methodNamed Bd.named Bd.method).1
  have X0 : Stand p l e room_1 (s.setVm s.vm) m #[(.int p1), (.int p2), (.long q3)] below meth c s₁ [] 0 0 := Stand.of_body Bd
  have e0 : s₁.heap = h0 := by rw [← hh, Bd.state]; rfl
  have N0 := Fr.nil n0
  have pre0 : ∀ t, Steps p.tables e below (s₁.setTop (mkF m 0 #[.val (.int p1), .val (.int p2), .val (.long q3), .second, .unset, .unset, .unset, .unset, .unset, .unset, .unset, .unset] [])) t → Steps p.tables e below (s₁.setTop (entryFrame m #[(.int p1), (.int p2), (.long q3)] maxLocals)) t := fun t k => castTop (ef_0 m p1 p2 q3) k
  refine own_step (Q := fun o U' => ∃ v L, o = .returned v ∧ Q0 Z p1 p2 q3 cz h0 n0 v U'.heap L ∧ CHr Z consts_1 s.vm s.heap U'.vm U'.heap ∧ ReturnedEndW s o U' L room_1.cells room_1.slots) pre0 ?_
  have K0 : Keep h0 h0 [] := Keep.refl h0 []
  have CR0 : CHr Z consts_1 s.vm h0 s.vm h0 := CHr.refl (show CHv Z consts_1 s.vm h0 from hCH)
  have hS0 : s.Since s.vm s.heap.size := (State.WarmedH.refl s).since _
  have hk0 : s.heap.size ≤ h0.size := Nat.le_of_eq (by rw [hh])
  obtain ⟨T1, h1, kc1, X1, e1, E1, A1, st1⟩ := newP X0 hx hZ (hw _ (List.mem_of_getElem? (i := 0) rfl)) e0 (g := (mkF m 15 #[.val (.int p1), .val (.int p2), .val (.long q3), .second, .val (.int (p1 &&& (7 : Int32))), .val (.int ((XT.ushr p1 (3 : Int32)) &&& (7 : Int32))), .unset, .unset, .unset, .unset, .unset, .unset] [(.int (4 : Int32))])) rfl (hb hby at_15) (n := (4 : Int32)) (rest := []) rfl (by decide) (cap := 4) (by decide) (by decide) (by decide) (by decide)
  obtain ⟨o1, g1⟩ : ∃ z, z = h0.size := ⟨_, rfl⟩
  rw [← g1] at A1 st1
  have ge1 : n0 ≤ o1 := Nat.le_trans Z0 (Nat.le_of_eq g1.symm)
  have Z1 : n0 ≤ h1.size := Nat.le_trans Z0 E1.1
  have sz1 : h0.size ≤ o1 := Nat.le_trans K0.1 (Nat.le_of_eq g1.symm)
  have K1 := K0.ext E1
  have OL1 := OLD.ext E1
  have V1 : Arv Z h1 o1 kc1 .char (4 : Int32) [(.int (0 : Int32)), (.int (0 : Int32)), (.int (0 : Int32)), (.int (0 : Int32))] (.int (0 : Int32)) := (Arv.new A1 (by decide)).pad (pad_rep [] (.int (0 : Int32)) 4)
  obtain ⟨cl2, Ar2, qc2, S2, M2, H2, G2⟩ := id V1
  obtain ⟨T2, h2, X2, e2, W2, st2⟩ := stC X1 hx hZ e1 Ar2 (j := (0 : Int32)) (inb_of S2 (by decide)) (g := (mkF m 28 #[.val (.int p1), .val (.int p2), .val (.long q3), .second, .val (.int (p1 &&& (7 : Int32))), .val (.int ((XT.ushr p1 (3 : Int32)) &&& (7 : Int32))), .val (.ref o1), .unset, .unset, .unset, .unset, .unset] [(.int (p2 &&& (255 : Int32)).toUInt32.toUInt16.toUInt32.toInt32), (.int (0 : Int32)), (.ref o1)])) rfl rfl (hb hby at_28)
  have K2 := K1.wr W2 (Or.inr sz1)
  have Z2 : n0 ≤ h2.size := Nat.le_trans Z1 (Keep.of_wr W2).1
  have N2 := Fr.snoc X2 N0 ge1
  have OL2 := OL1.wr W2 ge1
  have V2 : Arv Z h2 o1 kc1 .char (4 : Int32) [(.int (f0_0 p1 p2 q3 cz)), (.int (0 : Int32)), (.int (0 : Int32)), (.int (0 : Int32))] (.int (0 : Int32)) := Arv.set Ar2 qc2 S2 M2 H2 G2 (fits_nar_char _) W2 0 (by decide) (by show 0 < 4; decide)
  obtain ⟨cl3, Ar3, qc3, S3, M3, H3, G3⟩ := id V2
  obtain ⟨T3, h3, X3, e3, W3, st3⟩ := stC X2 hx hZ e2 Ar3 (j := (1 : Int32)) (inb_of S3 (by decide)) (g := (mkF m 41 #[.val (.int p1), .val (.int p2), .val (.long q3), .second, .val (.int (p1 &&& (7 : Int32))), .val (.int ((XT.ushr p1 (3 : Int32)) &&& (7 : Int32))), .val (.ref o1), .unset, .unset, .unset, .unset, .unset] [(.int (f0_1 p1 p2 q3 cz)), (.int (1 : Int32)), (.ref o1)])) rfl rfl (hb hby at_41)
  have K3 := K2.wr W3 (Or.inr sz1)
  have Z3 : n0 ≤ h3.size := Nat.le_trans Z2 (Keep.of_wr W3).1
  have N3 := Fr.snoc X3 N2 ge1
  have OL3 := OL2.wr W3 ge1
  have V3 : Arv Z h3 o1 kc1 .char (4 : Int32) [(.int (f0_0 p1 p2 q3 cz)), (.int (f0_1 p1 p2 q3 cz).toUInt32.toUInt16.toUInt32.toInt32), (.int (0 : Int32)), (.int (0 : Int32))] (.int (0 : Int32)) := Arv.set Ar3 qc3 S3 M3 H3 G3 (fits_nar_char _) W3 1 (by decide) (by show 1 < 4; decide)
  obtain ⟨cl4, Ar4, qc4, S4, M4, H4, G4⟩ := id V3
  obtain ⟨T4, h4, X4, e4, W4, st4⟩ := stC X3 hx hZ e3 Ar4 (j := (2 : Int32)) (inb_of S4 (by decide)) (g := (mkF m 54 #[.val (.int p1), .val (.int p2), .val (.long q3), .second, .val (.int (p1 &&& (7 : Int32))), .val (.int ((XT.ushr p1 (3 : Int32)) &&& (7 : Int32))), .val (.ref o1), .unset, .unset, .unset, .unset, .unset] [(.int (f0_2 p1 p2 q3 cz)), (.int (2 : Int32)), (.ref o1)])) rfl rfl (hb hby at_54)
  have K4 := K3.wr W4 (Or.inr sz1)
  have Z4 : n0 ≤ h4.size := Nat.le_trans Z3 (Keep.of_wr W4).1
  have N4 := Fr.snoc X4 N3 ge1
  have OL4 := OL3.wr W4 ge1
  have V4 : Arv Z h4 o1 kc1 .char (4 : Int32) [(.int (f0_0 p1 p2 q3 cz)), (.int (f0_1 p1 p2 q3 cz).toUInt32.toUInt16.toUInt32.toInt32), (.int (f0_2 p1 p2 q3 cz).toUInt32.toUInt16.toUInt32.toInt32), (.int (0 : Int32))] (.int (0 : Int32)) := Arv.set Ar4 qc4 S4 M4 H4 G4 (fits_nar_char _) W4 2 (by decide) (by show 2 < 4; decide)
  obtain ⟨cl5, Ar5, qc5, S5, M5, H5, G5⟩ := id V4
  obtain ⟨T5, h5, X5, e5, W5, st5⟩ := stC X4 hx hZ e4 Ar5 (j := (3 : Int32)) (inb_of S5 (by decide)) (g := (mkF m 67 #[.val (.int p1), .val (.int p2), .val (.long q3), .second, .val (.int (p1 &&& (7 : Int32))), .val (.int ((XT.ushr p1 (3 : Int32)) &&& (7 : Int32))), .val (.ref o1), .unset, .unset, .unset, .unset, .unset] [(.int (f0_3 p1 p2 q3 cz)), (.int (3 : Int32)), (.ref o1)])) rfl rfl (hb hby at_67)
  have K5 := K4.wr W5 (Or.inr sz1)
  have Z5 : n0 ≤ h5.size := Nat.le_trans Z4 (Keep.of_wr W5).1
  have N5 := Fr.snoc X5 N4 ge1
  have OL5 := OL4.wr W5 ge1
  have V5 : Arv Z h5 o1 kc1 .char (4 : Int32) [(.int (f0_0 p1 p2 q3 cz)), (.int (f0_1 p1 p2 q3 cz).toUInt32.toUInt16.toUInt32.toInt32), (.int (f0_2 p1 p2 q3 cz).toUInt32.toUInt16.toUInt32.toInt32), (.int (f0_3 p1 p2 q3 cz).toUInt32.toUInt16.toUInt32.toInt32)] (.int (0 : Int32)) := Arv.set Ar5 qc5 S5 M5 H5 G5 (fits_nar_char _) W5 3 (by decide) (by show 3 < 4; decide)
  obtain ⟨T6, h6, kc6, X6, e6, E6, A6, st6⟩ := newP X5 hx hZ (hw _ (List.mem_of_getElem? (i := 0) rfl)) e5 (g := (mkF m 70 #[.val (.int p1), .val (.int p2), .val (.long q3), .second, .val (.int (p1 &&& (7 : Int32))), .val (.int ((XT.ushr p1 (3 : Int32)) &&& (7 : Int32))), .val (.ref o1), .unset, .unset, .unset, .unset, .unset] [(.int (6 : Int32))])) rfl (hb hby at_70) (n := (6 : Int32)) (rest := []) rfl (by decide) (cap := 6) (by decide) (by decide) (by decide) (by decide)
  obtain ⟨o6, g6⟩ : ∃ z, z = h5.size := ⟨_, rfl⟩
  rw [← g6] at A6 st6
  have ne6_1 : o1 ≠ o6 := Nat.ne_of_lt (Nat.lt_of_lt_of_le V5.lt (Nat.le_of_eq g6.symm))
  have u6_0 := V5.ext E6
  have ge6 : n0 ≤ o6 := Nat.le_trans Z5 (Nat.le_of_eq g6.symm)
  have Z6 : n0 ≤ h6.size := Nat.le_trans Z5 E6.1
  have sz6 : h0.size ≤ o6 := Nat.le_trans K5.1 (Nat.le_of_eq g6.symm)
  have K6 := K5.ext E6
  have OL6 := OL5.ext E6
  have V6 : Arv Z h6 o6 kc6 .char (6 : Int32) [(.int (0 : Int32)), (.int (0 : Int32)), (.int (0 : Int32)), (.int (0 : Int32)), (.int (0 : Int32)), (.int (0 : Int32))] (.int (0 : Int32)) := (Arv.new A6 (by decide)).pad (pad_rep [] (.int (0 : Int32)) 6)
  obtain ⟨cl7, Ar7, qc7, S7, M7, H7, G7⟩ := id V6
  obtain ⟨T7, h7, X7, e7, W7, st7⟩ := stC X6 hx hZ e6 Ar7 (j := (0 : Int32)) (inb_of S7 (by decide)) (g := (mkF m 84 #[.val (.int p1), .val (.int p2), .val (.long q3), .second, .val (.int (p1 &&& (7 : Int32))), .val (.int ((XT.ushr p1 (3 : Int32)) &&& (7 : Int32))), .val (.ref o1), .val (.ref o6), .unset, .unset, .unset, .unset] [(.int (f0_4 p1 p2 q3 cz)), (.int (0 : Int32)), (.ref o6)])) rfl rfl (hb hby at_84)
  have u7_0 := u6_0.other W7 ne6_1
  have K7 := K6.wr W7 (Or.inr sz6)
  have Z7 : n0 ≤ h7.size := Nat.le_trans Z6 (Keep.of_wr W7).1
  have N7 := Fr.snoc X7 N5 ge6
  have OL7 := OL6.wr W7 ge6
  have V7 : Arv Z h7 o6 kc6 .char (6 : Int32) [(.int (f0_4 p1 p2 q3 cz).toUInt32.toUInt16.toUInt32.toInt32), (.int (0 : Int32)), (.int (0 : Int32)), (.int (0 : Int32)), (.int (0 : Int32)), (.int (0 : Int32))] (.int (0 : Int32)) := Arv.set Ar7 qc7 S7 M7 H7 G7 (fits_nar_char _) W7 0 (by decide) (by show 0 < 6; decide)
  obtain ⟨cl8, Ar8, qc8, S8, M8, H8, G8⟩ := id V7
  obtain ⟨T8, h8, X8, e8, W8, st8⟩ := stC X7 hx hZ e7 Ar8 (j := (1 : Int32)) (inb_of S8 (by decide)) (g := (mkF m 98 #[.val (.int p1), .val (.int p2), .val (.long q3), .second, .val (.int (p1 &&& (7 : Int32))), .val (.int ((XT.ushr p1 (3 : Int32)) &&& (7 : Int32))), .val (.ref o1), .val (.ref o6), .unset, .unset, .unset, .unset] [(.int (f0_5 p1 p2 q3 cz)), (.int (1 : Int32)), (.ref o6)])) rfl rfl (hb hby at_98)
  have u8_0 := u7_0.other W8 ne6_1
  have K8 := K7.wr W8 (Or.inr sz6)
  have Z8 : n0 ≤ h8.size := Nat.le_trans Z7 (Keep.of_wr W8).1
  have N8 := Fr.snoc X8 N7 ge6
  have OL8 := OL7.wr W8 ge6
  have V8 : Arv Z h8 o6 kc6 .char (6 : Int32) [(.int (f0_4 p1 p2 q3 cz).toUInt32.toUInt16.toUInt32.toInt32), (.int (f0_5 p1 p2 q3 cz).toUInt32.toUInt16.toUInt32.toInt32), (.int (0 : Int32)), (.int (0 : Int32)), (.int (0 : Int32)), (.int (0 : Int32))] (.int (0 : Int32)) := Arv.set Ar8 qc8 S8 M8 H8 G8 (fits_nar_char _) W8 1 (by decide) (by show 1 < 6; decide)
  obtain ⟨cl9, Ar9, qc9, S9, M9, H9, G9⟩ := id V8
  obtain ⟨T9, h9, X9, e9, W9, st9⟩ := stC X8 hx hZ e8 Ar9 (j := (2 : Int32)) (inb_of S9 (by decide)) (g := (mkF m 112 #[.val (.int p1), .val (.int p2), .val (.long q3), .second, .val (.int (p1 &&& (7 : Int32))), .val (.int ((XT.ushr p1 (3 : Int32)) &&& (7 : Int32))), .val (.ref o1), .val (.ref o6), .unset, .unset, .unset, .unset] [(.int (f0_6 p1 p2 q3 cz)), (.int (2 : Int32)), (.ref o6)])) rfl rfl (hb hby at_112)
  have u9_0 := u8_0.other W9 ne6_1
  have K9 := K8.wr W9 (Or.inr sz6)
  have Z9 : n0 ≤ h9.size := Nat.le_trans Z8 (Keep.of_wr W9).1
  have N9 := Fr.snoc X9 N8 ge6
  have OL9 := OL8.wr W9 ge6
  have V9 : Arv Z h9 o6 kc6 .char (6 : Int32) [(.int (f0_4 p1 p2 q3 cz).toUInt32.toUInt16.toUInt32.toInt32), (.int (f0_5 p1 p2 q3 cz).toUInt32.toUInt16.toUInt32.toInt32), (.int (f0_6 p1 p2 q3 cz).toUInt32.toUInt16.toUInt32.toInt32), (.int (0 : Int32)), (.int (0 : Int32)), (.int (0 : Int32))] (.int (0 : Int32)) := Arv.set Ar9 qc9 S9 M9 H9 G9 (fits_nar_char _) W9 2 (by decide) (by show 2 < 6; decide)
  obtain ⟨cl10, Ar10, qc10, S10, M10, H10, G10⟩ := id V9
  obtain ⟨T10, h10, X10, e10, W10, st10⟩ := stC X9 hx hZ e9 Ar10 (j := (3 : Int32)) (inb_of S10 (by decide)) (g := (mkF m 126 #[.val (.int p1), .val (.int p2), .val (.long q3), .second, .val (.int (p1 &&& (7 : Int32))), .val (.int ((XT.ushr p1 (3 : Int32)) &&& (7 : Int32))), .val (.ref o1), .val (.ref o6), .unset, .unset, .unset, .unset] [(.int (f0_7 p1 p2 q3 cz)), (.int (3 : Int32)), (.ref o6)])) rfl rfl (hb hby at_126)
  have u10_0 := u9_0.other W10 ne6_1
  have K10 := K9.wr W10 (Or.inr sz6)
  have Z10 : n0 ≤ h10.size := Nat.le_trans Z9 (Keep.of_wr W10).1
  have N10 := Fr.snoc X10 N9 ge6
  have OL10 := OL9.wr W10 ge6
  have V10 : Arv Z h10 o6 kc6 .char (6 : Int32) [(.int (f0_4 p1 p2 q3 cz).toUInt32.toUInt16.toUInt32.toInt32), (.int (f0_5 p1 p2 q3 cz).toUInt32.toUInt16.toUInt32.toInt32), (.int (f0_6 p1 p2 q3 cz).toUInt32.toUInt16.toUInt32.toInt32), (.int (f0_7 p1 p2 q3 cz).toUInt32.toUInt16.toUInt32.toInt32), (.int (0 : Int32)), (.int (0 : Int32))] (.int (0 : Int32)) := Arv.set Ar10 qc10 S10 M10 H10 G10 (fits_nar_char _) W10 3 (by decide) (by show 3 < 6; decide)
  obtain ⟨cl11, Ar11, qc11, S11, M11, H11, G11⟩ := id V10
  obtain ⟨T11, h11, X11, e11, W11, st11⟩ := stC X10 hx hZ e10 Ar11 (j := (4 : Int32)) (inb_of S11 (by decide)) (g := (mkF m 140 #[.val (.int p1), .val (.int p2), .val (.long q3), .second, .val (.int (p1 &&& (7 : Int32))), .val (.int ((XT.ushr p1 (3 : Int32)) &&& (7 : Int32))), .val (.ref o1), .val (.ref o6), .unset, .unset, .unset, .unset] [(.int (f0_8 p1 p2 q3 cz)), (.int (4 : Int32)), (.ref o6)])) rfl rfl (hb hby at_140)
  have u11_0 := u10_0.other W11 ne6_1
  have K11 := K10.wr W11 (Or.inr sz6)
  have Z11 : n0 ≤ h11.size := Nat.le_trans Z10 (Keep.of_wr W11).1
  have N11 := Fr.snoc X11 N10 ge6
  have OL11 := OL10.wr W11 ge6
  have V11 : Arv Z h11 o6 kc6 .char (6 : Int32) [(.int (f0_4 p1 p2 q3 cz).toUInt32.toUInt16.toUInt32.toInt32), (.int (f0_5 p1 p2 q3 cz).toUInt32.toUInt16.toUInt32.toInt32), (.int (f0_6 p1 p2 q3 cz).toUInt32.toUInt16.toUInt32.toInt32), (.int (f0_7 p1 p2 q3 cz).toUInt32.toUInt16.toUInt32.toInt32), (.int (f0_8 p1 p2 q3 cz).toUInt32.toUInt16.toUInt32.toInt32), (.int (0 : Int32))] (.int (0 : Int32)) := Arv.set Ar11 qc11 S11 M11 H11 G11 (fits_nar_char _) W11 4 (by decide) (by show 4 < 6; decide)
  obtain ⟨cl12, Ar12, qc12, S12, M12, H12, G12⟩ := id V11
  obtain ⟨T12, h12, X12, e12, W12, st12⟩ := stC X11 hx hZ e11 Ar12 (j := (5 : Int32)) (inb_of S12 (by decide)) (g := (mkF m 154 #[.val (.int p1), .val (.int p2), .val (.long q3), .second, .val (.int (p1 &&& (7 : Int32))), .val (.int ((XT.ushr p1 (3 : Int32)) &&& (7 : Int32))), .val (.ref o1), .val (.ref o6), .unset, .unset, .unset, .unset] [(.int (f0_9 p1 p2 q3 cz)), (.int (5 : Int32)), (.ref o6)])) rfl rfl (hb hby at_154)
  have u12_0 := u11_0.other W12 ne6_1
  have K12 := K11.wr W12 (Or.inr sz6)
  have Z12 : n0 ≤ h12.size := Nat.le_trans Z11 (Keep.of_wr W12).1
  have N12 := Fr.snoc X12 N11 ge6
  have OL12 := OL11.wr W12 ge6
  have V12 : Arv Z h12 o6 kc6 .char (6 : Int32) [(.int (f0_4 p1 p2 q3 cz).toUInt32.toUInt16.toUInt32.toInt32), (.int (f0_5 p1 p2 q3 cz).toUInt32.toUInt16.toUInt32.toInt32), (.int (f0_6 p1 p2 q3 cz).toUInt32.toUInt16.toUInt32.toInt32), (.int (f0_7 p1 p2 q3 cz).toUInt32.toUInt16.toUInt32.toInt32), (.int (f0_8 p1 p2 q3 cz).toUInt32.toUInt16.toUInt32.toInt32), (.int (f0_9 p1 p2 q3 cz).toUInt32.toUInt16.toUInt32.toInt32)] (.int (0 : Int32)) := Arv.set Ar12 qc12 S12 M12 H12 G12 (fits_nar_char _) W12 5 (by decide) (by show 5 < 6; decide)
  refine own_step (B := T12.setTop (mkF m 155 #[.val (.int p1), .val (.int p2), .val (.long q3), .second, .val (.int (p1 &&& (7 : Int32))), .val (.int ((XT.ushr p1 (3 : Int32)) &&& (7 : Int32))), .val (.ref o1), .val (.ref o6), .unset, .unset, .unset, .unset] [])) (fun t k => ?_) ?_
  · show Steps p.tables e below (s₁.setTop (mkF m 0 #[.val (.int p1), .val (.int p2), .val (.long q3), .second, .unset, .unset, .unset, .unset, .unset, .unset, .unset, .unset] [])) _
    refine XS.iloadN X0.here hx rfl (hb hby at_0) rfl ?_
    show Steps p.tables e below (s₁.setTop (mkF m 1 #[.val (.int p1), .val (.int p2), .val (.long q3), .second, .unset, .unset, .unset, .unset, .unset, .unset, .unset, .unset] [(.int p1)])) _
    refine XS.bipush X0.here hx rfl (hb hby at_1) ?_
    show Steps p.tables e below (s₁.setTop (mkF m 3 #[.val (.int p1), .val (.int p2), .val (.long q3), .second, .unset, .unset, .unset, .unset, .unset, .unset, .unset, .unset] [(.int (7 : Int32)), (.int p1)])) _
    refine XS.iand X0.here hx rfl (hb hby at_3) rfl ?_
    show Steps p.tables e below (s₁.setTop (mkF m 4 #[.val (.int p1), .val (.int p2), .val (.long q3), .second, .unset, .unset, .unset, .unset, .unset, .unset, .unset, .unset] [(.int (p1 &&& (7 : Int32)))])) _
    refine XS.istore X0.here hx rfl (hb hby at_4) rfl (l' := #[.val (.int p1), .val (.int p2), .val (.long q3), .second, .val (.int (p1 &&& (7 : Int32))), .unset, .unset, .unset, .unset, .unset, .unset, .unset]) rfl ?_
    show Steps p.tables e below (s₁.setTop (mkF m 6 #[.val (.int p1), .val (.int p2), .val (.long q3), .second, .val (.int (p1 &&& (7 : Int32))), .unset, .unset, .unset, .unset, .unset, .unset, .unset] [])) _
    refine XS.iloadN X0.here hx rfl (hb hby at_6) rfl ?_
    show Steps p.tables e below (s₁.setTop (mkF m 7 #[.val (.int p1), .val (.int p2), .val (.long q3), .second, .val (.int (p1 &&& (7 : Int32))), .unset, .unset, .unset, .unset, .unset, .unset, .unset] [(.int p1)])) _
    refine XS.iconst X0.here hx rfl (hb hby at_7) ?_
    show Steps p.tables e below (s₁.setTop (mkF m 8 #[.val (.int p1), .val (.int p2), .val (.long q3), .second, .val (.int (p1 &&& (7 : Int32))), .unset, .unset, .unset, .unset, .unset, .unset, .unset] [(.int (3 : Int32)), (.int p1)])) _
    refine XT.iushr X0.here hx rfl (hb hby at_8) rfl ?_
    show Steps p.tables e below (s₁.setTop (mkF m 9 #[.val (.int p1), .val (.int p2), .val (.long q3), .second, .val (.int (p1 &&& (7 : Int32))), .unset, .unset, .unset, .unset, .unset, .unset, .unset] [(.int (XT.ushr p1 (3 : Int32)))])) _
    refine XS.bipush X0.here hx rfl (hb hby at_9) ?_
    show Steps p.tables e below (s₁.setTop (mkF m 11 #[.val (.int p1), .val (.int p2), .val (.long q3), .second, .val (.int (p1 &&& (7 : Int32))), .unset, .unset, .unset, .unset, .unset, .unset, .unset] [(.int (7 : Int32)), (.int (XT.ushr p1 (3 : Int32)))])) _
    refine XS.iand X0.here hx rfl (hb hby at_11) rfl ?_
    show Steps p.tables e below (s₁.setTop (mkF m 12 #[.val (.int p1), .val (.int p2), .val (.long q3), .second, .val (.int (p1 &&& (7 : Int32))), .unset, .unset, .unset, .unset, .unset, .unset, .unset] [(.int ((XT.ushr p1 (3 : Int32)) &&& (7 : Int32)))])) _
    refine XS.istore X0.here hx rfl (hb hby at_12) rfl (l' := #[.val (.int p1), .val (.int p2), .val (.long q3), .second, .val (.int (p1 &&& (7 : Int32))), .val (.int ((XT.ushr p1 (3 : Int32)) &&& (7 : Int32))), .unset, .unset, .unset, .unset, .unset, .unset]) rfl ?_
    show Steps p.tables e below (s₁.setTop (mkF m 14 #[.val (.int p1), .val (.int p2), .val (.long q3), .second, .val (.int (p1 &&& (7 : Int32))), .val (.int ((XT.ushr p1 (3 : Int32)) &&& (7 : Int32))), .unset, .unset, .unset, .unset, .unset, .unset] [])) _
    refine XS.iconst X0.here hx rfl (hb hby at_14) ?_
    show Steps p.tables e below (s₁.setTop (mkF m 15 #[.val (.int p1), .val (.int p2), .val (.long q3), .second, .val (.int (p1 &&& (7 : Int32))), .val (.int ((XT.ushr p1 (3 : Int32)) &&& (7 : Int32))), .unset, .unset, .unset, .unset, .unset, .unset] [(.int (4 : Int32))])) _
    refine st1 _ ?_
    show Steps p.tables e below (T1.setTop (mkF m 17 #[.val (.int p1), .val (.int p2), .val (.long q3), .second, .val (.int (p1 &&& (7 : Int32))), .val (.int ((XT.ushr p1 (3 : Int32)) &&& (7 : Int32))), .unset, .unset, .unset, .unset, .unset, .unset] [(.ref o1)])) _
    refine XS.astore X1.here hx rfl (hb hby at_17) rfl rfl (l' := #[.val (.int p1), .val (.int p2), .val (.long q3), .second, .val (.int (p1 &&& (7 : Int32))), .val (.int ((XT.ushr p1 (3 : Int32)) &&& (7 : Int32))), .val (.ref o1), .unset, .unset, .unset, .unset, .unset]) rfl ?_
    show Steps p.tables e below (T1.setTop (mkF m 19 #[.val (.int p1), .val (.int p2), .val (.long q3), .second, .val (.int (p1 &&& (7 : Int32))), .val (.int ((XT.ushr p1 (3 : Int32)) &&& (7 : Int32))), .val (.ref o1), .unset, .unset, .unset, .unset, .unset] [])) _
    refine XS.aload X1.here hx rfl (hb hby at_19) rfl rfl ?_
    show Steps p.tables e below (T1.setTop (mkF m 21 #[.val (.int p1), .val (.int p2), .val (.long q3), .second, .val (.int (p1 &&& (7 : Int32))), .val (.int ((XT.ushr p1 (3 : Int32)) &&& (7 : Int32))), .val (.ref o1), .unset, .unset, .unset, .unset, .unset] [(.ref o1)])) _
    refine XS.iconst X1.here hx rfl (hb hby at_21) ?_
    show Steps p.tables e below (T1.setTop (mkF m 22 #[.val (.int p1), .val (.int p2), .val (.long q3), .second, .val (.int (p1 &&& (7 : Int32))), .val (.int ((XT.ushr p1 (3 : Int32)) &&& (7 : Int32))), .val (.ref o1), .unset, .unset, .unset, .unset, .unset] [(.int (0 : Int32)), (.ref o1)])) _
    refine XS.iloadN X1.here hx rfl (hb hby at_22) rfl ?_
    show Steps p.tables e below (T1.setTop (mkF m 23 #[.val (.int p1), .val (.int p2), .val (.long q3), .second, .val (.int (p1 &&& (7 : Int32))), .val (.int ((XT.ushr p1 (3 : Int32)) &&& (7 : Int32))), .val (.ref o1), .unset, .unset, .unset, .unset, .unset] [(.int p2), (.int (0 : Int32)), (.ref o1)])) _
    refine XS.sipush X1.here hx rfl (hb hby at_23) ?_
    show Steps p.tables e below (T1.setTop (mkF m 26 #[.val (.int p1), .val (.int p2), .val (.long q3), .second, .val (.int (p1 &&& (7 : Int32))), .val (.int ((XT.ushr p1 (3 : Int32)) &&& (7 : Int32))), .val (.ref o1), .unset, .unset, .unset, .unset, .unset] [(.int (255 : Int32)), (.int p2), (.int (0 : Int32)), (.ref o1)])) _
    refine XS.iand X1.here hx rfl (hb hby at_26) rfl ?_
    show Steps p.tables e below (T1.setTop (mkF m 27 #[.val (.int p1), .val (.int p2), .val (.long q3), .second, .val (.int (p1 &&& (7 : Int32))), .val (.int ((XT.ushr p1 (3 : Int32)) &&& (7 : Int32))), .val (.ref o1), .unset, .unset, .unset, .unset, .unset] [(.int (p2 &&& (255 : Int32))), (.int (0 : Int32)), (.ref o1)])) _
    refine XT.i2c X1.here hx rfl (hb hby at_27) rfl ?_
    show Steps p.tables e below (T1.setTop (mkF m 28 #[.val (.int p1), .val (.int p2), .val (.long q3), .second, .val (.int (p1 &&& (7 : Int32))), .val (.int ((XT.ushr p1 (3 : Int32)) &&& (7 : Int32))), .val (.ref o1), .unset, .unset, .unset, .unset, .unset] [(.int (p2 &&& (255 : Int32)).toUInt32.toUInt16.toUInt32.toInt32), (.int (0 : Int32)), (.ref o1)])) _
    refine st2 _ ?_
    show Steps p.tables e below (T2.setTop (mkF m 29 #[.val (.int p1), .val (.int p2), .val (.long q3), .second, .val (.int (p1 &&& (7 : Int32))), .val (.int ((XT.ushr p1 (3 : Int32)) &&& (7 : Int32))), .val (.ref o1), .unset, .unset, .unset, .unset, .unset] [])) _
    refine XS.aload X2.here hx rfl (hb hby at_29) rfl rfl ?_
    show Steps p.tables e below (T2.setTop (mkF m 31 #[.val (.int p1), .val (.int p2), .val (.long q3), .second, .val (.int (p1 &&& (7 : Int32))), .val (.int ((XT.ushr p1 (3 : Int32)) &&& (7 : Int32))), .val (.ref o1), .unset, .unset, .unset, .unset, .unset] [(.ref o1)])) _
    refine XS.iconst X2.here hx rfl (hb hby at_31) ?_
    show Steps p.tables e below (T2.setTop (mkF m 32 #[.val (.int p1), .val (.int p2), .val (.long q3), .second, .val (.int (p1 &&& (7 : Int32))), .val (.int ((XT.ushr p1 (3 : Int32)) &&& (7 : Int32))), .val (.ref o1), .unset, .unset, .unset, .unset, .unset] [(.int (1 : Int32)), (.ref o1)])) _
    refine XS.iloadN X2.here hx rfl (hb hby at_32) rfl ?_
    show Steps p.tables e below (T2.setTop (mkF m 33 #[.val (.int p1), .val (.int p2), .val (.long q3), .second, .val (.int (p1 &&& (7 : Int32))), .val (.int ((XT.ushr p1 (3 : Int32)) &&& (7 : Int32))), .val (.ref o1), .unset, .unset, .unset, .unset, .unset] [(.int p2), (.int (1 : Int32)), (.ref o1)])) _
    refine XS.bipush X2.here hx rfl (hb hby at_33) ?_
    show Steps p.tables e below (T2.setTop (mkF m 35 #[.val (.int p1), .val (.int p2), .val (.long q3), .second, .val (.int (p1 &&& (7 : Int32))), .val (.int ((XT.ushr p1 (3 : Int32)) &&& (7 : Int32))), .val (.ref o1), .unset, .unset, .unset, .unset, .unset] [(.int (8 : Int32)), (.int p2), (.int (1 : Int32)), (.ref o1)])) _
    refine XT.iushr X2.here hx rfl (hb hby at_35) rfl ?_
    show Steps p.tables e below (T2.setTop (mkF m 36 #[.val (.int p1), .val (.int p2), .val (.long q3), .second, .val (.int (p1 &&& (7 : Int32))), .val (.int ((XT.ushr p1 (3 : Int32)) &&& (7 : Int32))), .val (.ref o1), .unset, .unset, .unset, .unset, .unset] [(.int (XT.ushr p2 (8 : Int32))), (.int (1 : Int32)), (.ref o1)])) _
    refine XS.sipush X2.here hx rfl (hb hby at_36) ?_
    show Steps p.tables e below (T2.setTop (mkF m 39 #[.val (.int p1), .val (.int p2), .val (.long q3), .second, .val (.int (p1 &&& (7 : Int32))), .val (.int ((XT.ushr p1 (3 : Int32)) &&& (7 : Int32))), .val (.ref o1), .unset, .unset, .unset, .unset, .unset] [(.int (255 : Int32)), (.int (XT.ushr p2 (8 : Int32))), (.int (1 : Int32)), (.ref o1)])) _
    refine XS.iand X2.here hx rfl (hb hby at_39) rfl ?_
    show Steps p.tables e below (T2.setTop (mkF m 40 #[.val (.int p1), .val (.int p2), .val (.long q3), .second, .val (.int (p1 &&& (7 : Int32))), .val (.int ((XT.ushr p1 (3 : Int32)) &&& (7 : Int32))), .val (.ref o1), .unset, .unset, .unset, .unset, .unset] [(.int ((XT.ushr p2 (8 : Int32)) &&& (255 : Int32))), (.int (1 : Int32)), (.ref o1)])) _
    refine XT.i2c X2.here hx rfl (hb hby at_40) rfl ?_
    show Steps p.tables e below (T2.setTop (mkF m 41 #[.val (.int p1), .val (.int p2), .val (.long q3), .second, .val (.int (p1 &&& (7 : Int32))), .val (.int ((XT.ushr p1 (3 : Int32)) &&& (7 : Int32))), .val (.ref o1), .unset, .unset, .unset, .unset, .unset] [(.int (f0_1 p1 p2 q3 cz)), (.int (1 : Int32)), (.ref o1)])) _
    refine st3 _ ?_
    show Steps p.tables e below (T3.setTop (mkF m 42 #[.val (.int p1), .val (.int p2), .val (.long q3), .second, .val (.int (p1 &&& (7 : Int32))), .val (.int ((XT.ushr p1 (3 : Int32)) &&& (7 : Int32))), .val (.ref o1), .unset, .unset, .unset, .unset, .unset] [])) _
    refine XS.aload X3.here hx rfl (hb hby at_42) rfl rfl ?_
    show Steps p.tables e below (T3.setTop (mkF m 44 #[.val (.int p1), .val (.int p2), .val (.long q3), .second, .val (.int (p1 &&& (7 : Int32))), .val (.int ((XT.ushr p1 (3 : Int32)) &&& (7 : Int32))), .val (.ref o1), .unset, .unset, .unset, .unset, .unset] [(.ref o1)])) _
    refine XS.iconst X3.here hx rfl (hb hby at_44) ?_
    show Steps p.tables e below (T3.setTop (mkF m 45 #[.val (.int p1), .val (.int p2), .val (.long q3), .second, .val (.int (p1 &&& (7 : Int32))), .val (.int ((XT.ushr p1 (3 : Int32)) &&& (7 : Int32))), .val (.ref o1), .unset, .unset, .unset, .unset, .unset] [(.int (2 : Int32)), (.ref o1)])) _
    refine XS.iloadN X3.here hx rfl (hb hby at_45) rfl ?_
    show Steps p.tables e below (T3.setTop (mkF m 46 #[.val (.int p1), .val (.int p2), .val (.long q3), .second, .val (.int (p1 &&& (7 : Int32))), .val (.int ((XT.ushr p1 (3 : Int32)) &&& (7 : Int32))), .val (.ref o1), .unset, .unset, .unset, .unset, .unset] [(.int p2), (.int (2 : Int32)), (.ref o1)])) _
    refine XS.bipush X3.here hx rfl (hb hby at_46) ?_
    show Steps p.tables e below (T3.setTop (mkF m 48 #[.val (.int p1), .val (.int p2), .val (.long q3), .second, .val (.int (p1 &&& (7 : Int32))), .val (.int ((XT.ushr p1 (3 : Int32)) &&& (7 : Int32))), .val (.ref o1), .unset, .unset, .unset, .unset, .unset] [(.int (16 : Int32)), (.int p2), (.int (2 : Int32)), (.ref o1)])) _
    refine XT.iushr X3.here hx rfl (hb hby at_48) rfl ?_
    show Steps p.tables e below (T3.setTop (mkF m 49 #[.val (.int p1), .val (.int p2), .val (.long q3), .second, .val (.int (p1 &&& (7 : Int32))), .val (.int ((XT.ushr p1 (3 : Int32)) &&& (7 : Int32))), .val (.ref o1), .unset, .unset, .unset, .unset, .unset] [(.int (XT.ushr p2 (16 : Int32))), (.int (2 : Int32)), (.ref o1)])) _
    refine XS.sipush X3.here hx rfl (hb hby at_49) ?_
    show Steps p.tables e below (T3.setTop (mkF m 52 #[.val (.int p1), .val (.int p2), .val (.long q3), .second, .val (.int (p1 &&& (7 : Int32))), .val (.int ((XT.ushr p1 (3 : Int32)) &&& (7 : Int32))), .val (.ref o1), .unset, .unset, .unset, .unset, .unset] [(.int (255 : Int32)), (.int (XT.ushr p2 (16 : Int32))), (.int (2 : Int32)), (.ref o1)])) _
    refine XS.iand X3.here hx rfl (hb hby at_52) rfl ?_
    show Steps p.tables e below (T3.setTop (mkF m 53 #[.val (.int p1), .val (.int p2), .val (.long q3), .second, .val (.int (p1 &&& (7 : Int32))), .val (.int ((XT.ushr p1 (3 : Int32)) &&& (7 : Int32))), .val (.ref o1), .unset, .unset, .unset, .unset, .unset] [(.int ((XT.ushr p2 (16 : Int32)) &&& (255 : Int32))), (.int (2 : Int32)), (.ref o1)])) _
    refine XT.i2c X3.here hx rfl (hb hby at_53) rfl ?_
    show Steps p.tables e below (T3.setTop (mkF m 54 #[.val (.int p1), .val (.int p2), .val (.long q3), .second, .val (.int (p1 &&& (7 : Int32))), .val (.int ((XT.ushr p1 (3 : Int32)) &&& (7 : Int32))), .val (.ref o1), .unset, .unset, .unset, .unset, .unset] [(.int (f0_2 p1 p2 q3 cz)), (.int (2 : Int32)), (.ref o1)])) _
    refine st4 _ ?_
    show Steps p.tables e below (T4.setTop (mkF m 55 #[.val (.int p1), .val (.int p2), .val (.long q3), .second, .val (.int (p1 &&& (7 : Int32))), .val (.int ((XT.ushr p1 (3 : Int32)) &&& (7 : Int32))), .val (.ref o1), .unset, .unset, .unset, .unset, .unset] [])) _
    refine XS.aload X4.here hx rfl (hb hby at_55) rfl rfl ?_
    show Steps p.tables e below (T4.setTop (mkF m 57 #[.val (.int p1), .val (.int p2), .val (.long q3), .second, .val (.int (p1 &&& (7 : Int32))), .val (.int ((XT.ushr p1 (3 : Int32)) &&& (7 : Int32))), .val (.ref o1), .unset, .unset, .unset, .unset, .unset] [(.ref o1)])) _
    refine XS.iconst X4.here hx rfl (hb hby at_57) ?_
    show Steps p.tables e below (T4.setTop (mkF m 58 #[.val (.int p1), .val (.int p2), .val (.long q3), .second, .val (.int (p1 &&& (7 : Int32))), .val (.int ((XT.ushr p1 (3 : Int32)) &&& (7 : Int32))), .val (.ref o1), .unset, .unset, .unset, .unset, .unset] [(.int (3 : Int32)), (.ref o1)])) _
    refine XS.iloadN X4.here hx rfl (hb hby at_58) rfl ?_
    show Steps p.tables e below (T4.setTop (mkF m 59 #[.val (.int p1), .val (.int p2), .val (.long q3), .second, .val (.int (p1 &&& (7 : Int32))), .val (.int ((XT.ushr p1 (3 : Int32)) &&& (7 : Int32))), .val (.ref o1), .unset, .unset, .unset, .unset, .unset] [(.int p2), (.int (3 : Int32)), (.ref o1)])) _
    refine XS.bipush X4.here hx rfl (hb hby at_59) ?_
    show Steps p.tables e below (T4.setTop (mkF m 61 #[.val (.int p1), .val (.int p2), .val (.long q3), .second, .val (.int (p1 &&& (7 : Int32))), .val (.int ((XT.ushr p1 (3 : Int32)) &&& (7 : Int32))), .val (.ref o1), .unset, .unset, .unset, .unset, .unset] [(.int (24 : Int32)), (.int p2), (.int (3 : Int32)), (.ref o1)])) _
    refine XT.iushr X4.here hx rfl (hb hby at_61) rfl ?_
    show Steps p.tables e below (T4.setTop (mkF m 62 #[.val (.int p1), .val (.int p2), .val (.long q3), .second, .val (.int (p1 &&& (7 : Int32))), .val (.int ((XT.ushr p1 (3 : Int32)) &&& (7 : Int32))), .val (.ref o1), .unset, .unset, .unset, .unset, .unset] [(.int (XT.ushr p2 (24 : Int32))), (.int (3 : Int32)), (.ref o1)])) _
    refine XS.sipush X4.here hx rfl (hb hby at_62) ?_
    show Steps p.tables e below (T4.setTop (mkF m 65 #[.val (.int p1), .val (.int p2), .val (.long q3), .second, .val (.int (p1 &&& (7 : Int32))), .val (.int ((XT.ushr p1 (3 : Int32)) &&& (7 : Int32))), .val (.ref o1), .unset, .unset, .unset, .unset, .unset] [(.int (255 : Int32)), (.int (XT.ushr p2 (24 : Int32))), (.int (3 : Int32)), (.ref o1)])) _
    refine XS.iand X4.here hx rfl (hb hby at_65) rfl ?_
    show Steps p.tables e below (T4.setTop (mkF m 66 #[.val (.int p1), .val (.int p2), .val (.long q3), .second, .val (.int (p1 &&& (7 : Int32))), .val (.int ((XT.ushr p1 (3 : Int32)) &&& (7 : Int32))), .val (.ref o1), .unset, .unset, .unset, .unset, .unset] [(.int ((XT.ushr p2 (24 : Int32)) &&& (255 : Int32))), (.int (3 : Int32)), (.ref o1)])) _
    refine XT.i2c X4.here hx rfl (hb hby at_66) rfl ?_
    show Steps p.tables e below (T4.setTop (mkF m 67 #[.val (.int p1), .val (.int p2), .val (.long q3), .second, .val (.int (p1 &&& (7 : Int32))), .val (.int ((XT.ushr p1 (3 : Int32)) &&& (7 : Int32))), .val (.ref o1), .unset, .unset, .unset, .unset, .unset] [(.int (f0_3 p1 p2 q3 cz)), (.int (3 : Int32)), (.ref o1)])) _
    refine st5 _ ?_
    show Steps p.tables e below (T5.setTop (mkF m 68 #[.val (.int p1), .val (.int p2), .val (.long q3), .second, .val (.int (p1 &&& (7 : Int32))), .val (.int ((XT.ushr p1 (3 : Int32)) &&& (7 : Int32))), .val (.ref o1), .unset, .unset, .unset, .unset, .unset] [])) _
    refine XS.bipush X5.here hx rfl (hb hby at_68) ?_
    show Steps p.tables e below (T5.setTop (mkF m 70 #[.val (.int p1), .val (.int p2), .val (.long q3), .second, .val (.int (p1 &&& (7 : Int32))), .val (.int ((XT.ushr p1 (3 : Int32)) &&& (7 : Int32))), .val (.ref o1), .unset, .unset, .unset, .unset, .unset] [(.int (6 : Int32))])) _
    refine st6 _ ?_
    show Steps p.tables e below (T6.setTop (mkF m 72 #[.val (.int p1), .val (.int p2), .val (.long q3), .second, .val (.int (p1 &&& (7 : Int32))), .val (.int ((XT.ushr p1 (3 : Int32)) &&& (7 : Int32))), .val (.ref o1), .unset, .unset, .unset, .unset, .unset] [(.ref o6)])) _
    refine XS.astore X6.here hx rfl (hb hby at_72) rfl rfl (l' := #[.val (.int p1), .val (.int p2), .val (.long q3), .second, .val (.int (p1 &&& (7 : Int32))), .val (.int ((XT.ushr p1 (3 : Int32)) &&& (7 : Int32))), .val (.ref o1), .val (.ref o6), .unset, .unset, .unset, .unset]) rfl ?_
    show Steps p.tables e below (T6.setTop (mkF m 74 #[.val (.int p1), .val (.int p2), .val (.long q3), .second, .val (.int (p1 &&& (7 : Int32))), .val (.int ((XT.ushr p1 (3 : Int32)) &&& (7 : Int32))), .val (.ref o1), .val (.ref o6), .unset, .unset, .unset, .unset] [])) _
    refine XS.aload X6.here hx rfl (hb hby at_74) rfl rfl ?_
    show Steps p.tables e below (T6.setTop (mkF m 76 #[.val (.int p1), .val (.int p2), .val (.long q3), .second, .val (.int (p1 &&& (7 : Int32))), .val (.int ((XT.ushr p1 (3 : Int32)) &&& (7 : Int32))), .val (.ref o1), .val (.ref o6), .unset, .unset, .unset, .unset] [(.ref o6)])) _
    refine XS.iconst X6.here hx rfl (hb hby at_76) ?_
    show Steps p.tables e below (T6.setTop (mkF m 77 #[.val (.int p1), .val (.int p2), .val (.long q3), .second, .val (.int (p1 &&& (7 : Int32))), .val (.int ((XT.ushr p1 (3 : Int32)) &&& (7 : Int32))), .val (.ref o1), .val (.ref o6), .unset, .unset, .unset, .unset] [(.int (0 : Int32)), (.ref o6)])) _
    refine XT.lloadN X6.here hx rfl (hb hby at_77) rfl ?_
    show Steps p.tables e below (T6.setTop (mkF m 78 #[.val (.int p1), .val (.int p2), .val (.long q3), .second, .val (.int (p1 &&& (7 : Int32))), .val (.int ((XT.ushr p1 (3 : Int32)) &&& (7 : Int32))), .val (.ref o1), .val (.ref o6), .unset, .unset, .unset, .unset] [(.long q3), (.int (0 : Int32)), (.ref o6)])) _
    refine X6.ldc2Long hx hown (mvT hZ (hw _ (List.mem_of_getElem? (i := 1) rfl))) (g := (mkF m 78 #[.val (.int p1), .val (.int p2), .val (.long q3), .second, .val (.int (p1 &&& (7 : Int32))), .val (.int ((XT.ushr p1 (3 : Int32)) &&& (7 : Int32))), .val (.ref o1), .val (.ref o6), .unset, .unset, .unset, .unset] [(.long q3), (.int (0 : Int32)), (.ref o6)])) rfl (hb hby at_78) _ ?_
    show Steps p.tables e below (T6.setTop (mkF m 81 #[.val (.int p1), .val (.int p2), .val (.long q3), .second, .val (.int (p1 &&& (7 : Int32))), .val (.int ((XT.ushr p1 (3 : Int32)) &&& (7 : Int32))), .val (.ref o1), .val (.ref o6), .unset, .unset, .unset, .unset] [(.long (255 : Int64)), (.long q3), (.int (0 : Int32)), (.ref o6)])) _
    refine XT.land X6.here hx rfl (hb hby at_81) rfl ?_
    show Steps p.tables e below (T6.setTop (mkF m 82 #[.val (.int p1), .val (.int p2), .val (.long q3), .second, .val (.int (p1 &&& (7 : Int32))), .val (.int ((XT.ushr p1 (3 : Int32)) &&& (7 : Int32))), .val (.ref o1), .val (.ref o6), .unset, .unset, .unset, .unset] [(.long (q3 &&& (255 : Int64))), (.int (0 : Int32)), (.ref o6)])) _
    refine XT.l2i X6.here hx rfl (hb hby at_82) rfl ?_
    show Steps p.tables e below (T6.setTop (mkF m 83 #[.val (.int p1), .val (.int p2), .val (.long q3), .second, .val (.int (p1 &&& (7 : Int32))), .val (.int ((XT.ushr p1 (3 : Int32)) &&& (7 : Int32))), .val (.ref o1), .val (.ref o6), .unset, .unset, .unset, .unset] [(.int (q3 &&& (255 : Int64)).toInt32), (.int (0 : Int32)), (.ref o6)])) _
    refine XT.i2c X6.here hx rfl (hb hby at_83) rfl ?_
    show Steps p.tables e below (T6.setTop (mkF m 84 #[.val (.int p1), .val (.int p2), .val (.long q3), .second, .val (.int (p1 &&& (7 : Int32))), .val (.int ((XT.ushr p1 (3 : Int32)) &&& (7 : Int32))), .val (.ref o1), .val (.ref o6), .unset, .unset, .unset, .unset] [(.int (f0_4 p1 p2 q3 cz)), (.int (0 : Int32)), (.ref o6)])) _
    refine st7 _ ?_
    show Steps p.tables e below (T7.setTop (mkF m 85 #[.val (.int p1), .val (.int p2), .val (.long q3), .second, .val (.int (p1 &&& (7 : Int32))), .val (.int ((XT.ushr p1 (3 : Int32)) &&& (7 : Int32))), .val (.ref o1), .val (.ref o6), .unset, .unset, .unset, .unset] [])) _
    refine XS.aload X7.here hx rfl (hb hby at_85) rfl rfl ?_
    show Steps p.tables e below (T7.setTop (mkF m 87 #[.val (.int p1), .val (.int p2), .val (.long q3), .second, .val (.int (p1 &&& (7 : Int32))), .val (.int ((XT.ushr p1 (3 : Int32)) &&& (7 : Int32))), .val (.ref o1), .val (.ref o6), .unset, .unset, .unset, .unset] [(.ref o6)])) _
    refine XS.iconst X7.here hx rfl (hb hby at_87) ?_
    show Steps p.tables e below (T7.setTop (mkF m 88 #[.val (.int p1), .val (.int p2), .val (.long q3), .second, .val (.int (p1 &&& (7 : Int32))), .val (.int ((XT.ushr p1 (3 : Int32)) &&& (7 : Int32))), .val (.ref o1), .val (.ref o6), .unset, .unset, .unset, .unset] [(.int (1 : Int32)), (.ref o6)])) _
    refine XT.lloadN X7.here hx rfl (hb hby at_88) rfl ?_
    show Steps p.tables e below (T7.setTop (mkF m 89 #[.val (.int p1), .val (.int p2), .val (.long q3), .second, .val (.int (p1 &&& (7 : Int32))), .val (.int ((XT.ushr p1 (3 : Int32)) &&& (7 : Int32))), .val (.ref o1), .val (.ref o6), .unset, .unset, .unset, .unset] [(.long q3), (.int (1 : Int32)), (.ref o6)])) _
    refine XS.bipush X7.here hx rfl (hb hby at_89) ?_
    show Steps p.tables e below (T7.setTop (mkF m 91 #[.val (.int p1), .val (.int p2), .val (.long q3), .second, .val (.int (p1 &&& (7 : Int32))), .val (.int ((XT.ushr p1 (3 : Int32)) &&& (7 : Int32))), .val (.ref o1), .val (.ref o6), .unset, .unset, .unset, .unset] [(.int (8 : Int32)), (.long q3), (.int (1 : Int32)), (.ref o6)])) _
    refine XT.lushr X7.here hx rfl (hb hby at_91) rfl ?_
    show Steps p.tables e below (T7.setTop (mkF m 92 #[.val (.int p1), .val (.int p2), .val (.long q3), .second, .val (.int (p1 &&& (7 : Int32))), .val (.int ((XT.ushr p1 (3 : Int32)) &&& (7 : Int32))), .val (.ref o1), .val (.ref o6), .unset, .unset, .unset, .unset] [(.long (XT.ushrL q3 (8 : Int32))), (.int (1 : Int32)), (.ref o6)])) _
    refine X7.ldc2Long hx hown (mvT hZ (hw _ (List.mem_of_getElem? (i := 1) rfl))) (g := (mkF m 92 #[.val (.int p1), .val (.int p2), .val (.long q3), .second, .val (.int (p1 &&& (7 : Int32))), .val (.int ((XT.ushr p1 (3 : Int32)) &&& (7 : Int32))), .val (.ref o1), .val (.ref o6), .unset, .unset, .unset, .unset] [(.long (XT.ushrL q3 (8 : Int32))), (.int (1 : Int32)), (.ref o6)])) rfl (hb hby at_92) _ ?_
    show Steps p.tables e below (T7.setTop (mkF m 95 #[.val (.int p1), .val (.int p2), .val (.long q3), .second, .val (.int (p1 &&& (7 : Int32))), .val (.int ((XT.ushr p1 (3 : Int32)) &&& (7 : Int32))), .val (.ref o1), .val (.ref o6), .unset, .unset, .unset, .unset] [(.long (255 : Int64)), (.long (XT.ushrL q3 (8 : Int32))), (.int (1 : Int32)), (.ref o6)])) _
    refine XT.land X7.here hx rfl (hb hby at_95) rfl ?_
    show Steps p.tables e below (T7.setTop (mkF m 96 #[.val (.int p1), .val (.int p2), .val (.long q3), .second, .val (.int (p1 &&& (7 : Int32))), .val (.int ((XT.ushr p1 (3 : Int32)) &&& (7 : Int32))), .val (.ref o1), .val (.ref o6), .unset, .unset, .unset, .unset] [(.long ((XT.ushrL q3 (8 : Int32)) &&& (255 : Int64))), (.int (1 : Int32)), (.ref o6)])) _
    refine XT.l2i X7.here hx rfl (hb hby at_96) rfl ?_
    show Steps p.tables e below (T7.setTop (mkF m 97 #[.val (.int p1), .val (.int p2), .val (.long q3), .second, .val (.int (p1 &&& (7 : Int32))), .val (.int ((XT.ushr p1 (3 : Int32)) &&& (7 : Int32))), .val (.ref o1), .val (.ref o6), .unset, .unset, .unset, .unset] [(.int ((XT.ushrL q3 (8 : Int32)) &&& (255 : Int64)).toInt32), (.int (1 : Int32)), (.ref o6)])) _
    refine XT.i2c X7.here hx rfl (hb hby at_97) rfl ?_
    show Steps p.tables e below (T7.setTop (mkF m 98 #[.val (.int p1), .val (.int p2), .val (.long q3), .second, .val (.int (p1 &&& (7 : Int32))), .val (.int ((XT.ushr p1 (3 : Int32)) &&& (7 : Int32))), .val (.ref o1), .val (.ref o6), .unset, .unset, .unset, .unset] [(.int (f0_5 p1 p2 q3 cz)), (.int (1 : Int32)), (.ref o6)])) _
    refine st8 _ ?_
    show Steps p.tables e below (T8.setTop (mkF m 99 #[.val (.int p1), .val (.int p2), .val (.long q3), .second, .val (.int (p1 &&& (7 : Int32))), .val (.int ((XT.ushr p1 (3 : Int32)) &&& (7 : Int32))), .val (.ref o1), .val (.ref o6), .unset, .unset, .unset, .unset] [])) _
    refine XS.aload X8.here hx rfl (hb hby at_99) rfl rfl ?_
    show Steps p.tables e below (T8.setTop (mkF m 101 #[.val (.int p1), .val (.int p2), .val (.long q3), .second, .val (.int (p1 &&& (7 : Int32))), .val (.int ((XT.ushr p1 (3 : Int32)) &&& (7 : Int32))), .val (.ref o1), .val (.ref o6), .unset, .unset, .unset, .unset] [(.ref o6)])) _
    refine XS.iconst X8.here hx rfl (hb hby at_101) ?_
    show Steps p.tables e below (T8.setTop (mkF m 102 #[.val (.int p1), .val (.int p2), .val (.long q3), .second, .val (.int (p1 &&& (7 : Int32))), .val (.int ((XT.ushr p1 (3 : Int32)) &&& (7 : Int32))), .val (.ref o1), .val (.ref o6), .unset, .unset, .unset, .unset] [(.int (2 : Int32)), (.ref o6)])) _
    refine XT.lloadN X8.here hx rfl (hb hby at_102) rfl ?_
    show Steps p.tables e below (T8.setTop (mkF m 103 #[.val (.int p1), .val (.int p2), .val (.long q3), .second, .val (.int (p1 &&& (7 : Int32))), .val (.int ((XT.ushr p1 (3 : Int32)) &&& (7 : Int32))), .val (.ref o1), .val (.ref o6), .unset, .unset, .unset, .unset] [(.long q3), (.int (2 : Int32)), (.ref o6)])) _
    refine XS.bipush X8.here hx rfl (hb hby at_103) ?_
    show Steps p.tables e below (T8.setTop (mkF m 105 #[.val (.int p1), .val (.int p2), .val (.long q3), .second, .val (.int (p1 &&& (7 : Int32))), .val (.int ((XT.ushr p1 (3 : Int32)) &&& (7 : Int32))), .val (.ref o1), .val (.ref o6), .unset, .unset, .unset, .unset] [(.int (16 : Int32)), (.long q3), (.int (2 : Int32)), (.ref o6)])) _
    refine XT.lushr X8.here hx rfl (hb hby at_105) rfl ?_
    show Steps p.tables e below (T8.setTop (mkF m 106 #[.val (.int p1), .val (.int p2), .val (.long q3), .second, .val (.int (p1 &&& (7 : Int32))), .val (.int ((XT.ushr p1 (3 : Int32)) &&& (7 : Int32))), .val (.ref o1), .val (.ref o6), .unset, .unset, .unset, .unset] [(.long (XT.ushrL q3 (16 : Int32))), (.int (2 : Int32)), (.ref o6)])) _
    refine X8.ldc2Long hx hown (mvT hZ (hw _ (List.mem_of_getElem? (i := 1) rfl))) (g := (mkF m 106 #[.val (.int p1), .val (.int p2), .val (.long q3), .second, .val (.int (p1 &&& (7 : Int32))), .val (.int ((XT.ushr p1 (3 : Int32)) &&& (7 : Int32))), .val (.ref o1), .val (.ref o6), .unset, .unset, .unset, .unset] [(.long (XT.ushrL q3 (16 : Int32))), (.int (2 : Int32)), (.ref o6)])) rfl (hb hby at_106) _ ?_
    show Steps p.tables e below (T8.setTop (mkF m 109 #[.val (.int p1), .val (.int p2), .val (.long q3), .second, .val (.int (p1 &&& (7 : Int32))), .val (.int ((XT.ushr p1 (3 : Int32)) &&& (7 : Int32))), .val (.ref o1), .val (.ref o6), .unset, .unset, .unset, .unset] [(.long (255 : Int64)), (.long (XT.ushrL q3 (16 : Int32))), (.int (2 : Int32)), (.ref o6)])) _
    refine XT.land X8.here hx rfl (hb hby at_109) rfl ?_
    show Steps p.tables e below (T8.setTop (mkF m 110 #[.val (.int p1), .val (.int p2), .val (.long q3), .second, .val (.int (p1 &&& (7 : Int32))), .val (.int ((XT.ushr p1 (3 : Int32)) &&& (7 : Int32))), .val (.ref o1), .val (.ref o6), .unset, .unset, .unset, .unset] [(.long ((XT.ushrL q3 (16 : Int32)) &&& (255 : Int64))), (.int (2 : Int32)), (.ref o6)])) _
    refine XT.l2i X8.here hx rfl (hb hby at_110) rfl ?_
    show Steps p.tables e below (T8.setTop (mkF m 111 #[.val (.int p1), .val (.int p2), .val (.long q3), .second, .val (.int (p1 &&& (7 : Int32))), .val (.int ((XT.ushr p1 (3 : Int32)) &&& (7 : Int32))), .val (.ref o1), .val (.ref o6), .unset, .unset, .unset, .unset] [(.int ((XT.ushrL q3 (16 : Int32)) &&& (255 : Int64)).toInt32), (.int (2 : Int32)), (.ref o6)])) _
    refine XT.i2c X8.here hx rfl (hb hby at_111) rfl ?_
    show Steps p.tables e below (T8.setTop (mkF m 112 #[.val (.int p1), .val (.int p2), .val (.long q3), .second, .val (.int (p1 &&& (7 : Int32))), .val (.int ((XT.ushr p1 (3 : Int32)) &&& (7 : Int32))), .val (.ref o1), .val (.ref o6), .unset, .unset, .unset, .unset] [(.int (f0_6 p1 p2 q3 cz)), (.int (2 : Int32)), (.ref o6)])) _
    refine st9 _ ?_
    show Steps p.tables e below (T9.setTop (mkF m 113 #[.val (.int p1), .val (.int p2), .val (.long q3), .second, .val (.int (p1 &&& (7 : Int32))), .val (.int ((XT.ushr p1 (3 : Int32)) &&& (7 : Int32))), .val (.ref o1), .val (.ref o6), .unset, .unset, .unset, .unset] [])) _
    refine XS.aload X9.here hx rfl (hb hby at_113) rfl rfl ?_
    show Steps p.tables e below (T9.setTop (mkF m 115 #[.val (.int p1), .val (.int p2), .val (.long q3), .second, .val (.int (p1 &&& (7 : Int32))), .val (.int ((XT.ushr p1 (3 : Int32)) &&& (7 : Int32))), .val (.ref o1), .val (.ref o6), .unset, .unset, .unset, .unset] [(.ref o6)])) _
    refine XS.iconst X9.here hx rfl (hb hby at_115) ?_
    show Steps p.tables e below (T9.setTop (mkF m 116 #[.val (.int p1), .val (.int p2), .val (.long q3), .second, .val (.int (p1 &&& (7 : Int32))), .val (.int ((XT.ushr p1 (3 : Int32)) &&& (7 : Int32))), .val (.ref o1), .val (.ref o6), .unset, .unset, .unset, .unset] [(.int (3 : Int32)), (.ref o6)])) _
    refine XT.lloadN X9.here hx rfl (hb hby at_116) rfl ?_
    show Steps p.tables e below (T9.setTop (mkF m 117 #[.val (.int p1), .val (.int p2), .val (.long q3), .second, .val (.int (p1 &&& (7 : Int32))), .val (.int ((XT.ushr p1 (3 : Int32)) &&& (7 : Int32))), .val (.ref o1), .val (.ref o6), .unset, .unset, .unset, .unset] [(.long q3), (.int (3 : Int32)), (.ref o6)])) _
    refine XS.bipush X9.here hx rfl (hb hby at_117) ?_
    show Steps p.tables e below (T9.setTop (mkF m 119 #[.val (.int p1), .val (.int p2), .val (.long q3), .second, .val (.int (p1 &&& (7 : Int32))), .val (.int ((XT.ushr p1 (3 : Int32)) &&& (7 : Int32))), .val (.ref o1), .val (.ref o6), .unset, .unset, .unset, .unset] [(.int (24 : Int32)), (.long q3), (.int (3 : Int32)), (.ref o6)])) _
    refine XT.lushr X9.here hx rfl (hb hby at_119) rfl ?_
    show Steps p.tables e below (T9.setTop (mkF m 120 #[.val (.int p1), .val (.int p2), .val (.long q3), .second, .val (.int (p1 &&& (7 : Int32))), .val (.int ((XT.ushr p1 (3 : Int32)) &&& (7 : Int32))), .val (.ref o1), .val (.ref o6), .unset, .unset, .unset, .unset] [(.long (XT.ushrL q3 (24 : Int32))), (.int (3 : Int32)), (.ref o6)])) _
    refine X9.ldc2Long hx hown (mvT hZ (hw _ (List.mem_of_getElem? (i := 1) rfl))) (g := (mkF m 120 #[.val (.int p1), .val (.int p2), .val (.long q3), .second, .val (.int (p1 &&& (7 : Int32))), .val (.int ((XT.ushr p1 (3 : Int32)) &&& (7 : Int32))), .val (.ref o1), .val (.ref o6), .unset, .unset, .unset, .unset] [(.long (XT.ushrL q3 (24 : Int32))), (.int (3 : Int32)), (.ref o6)])) rfl (hb hby at_120) _ ?_
    show Steps p.tables e below (T9.setTop (mkF m 123 #[.val (.int p1), .val (.int p2), .val (.long q3), .second, .val (.int (p1 &&& (7 : Int32))), .val (.int ((XT.ushr p1 (3 : Int32)) &&& (7 : Int32))), .val (.ref o1), .val (.ref o6), .unset, .unset, .unset, .unset] [(.long (255 : Int64)), (.long (XT.ushrL q3 (24 : Int32))), (.int (3 : Int32)), (.ref o6)])) _
    refine XT.land X9.here hx rfl (hb hby at_123) rfl ?_
    show Steps p.tables e below (T9.setTop (mkF m 124 #[.val (.int p1), .val (.int p2), .val (.long q3), .second, .val (.int (p1 &&& (7 : Int32))), .val (.int ((XT.ushr p1 (3 : Int32)) &&& (7 : Int32))), .val (.ref o1), .val (.ref o6), .unset, .unset, .unset, .unset] [(.long ((XT.ushrL q3 (24 : Int32)) &&& (255 : Int64))), (.int (3 : Int32)), (.ref o6)])) _
    refine XT.l2i X9.here hx rfl (hb hby at_124) rfl ?_
    show Steps p.tables e below (T9.setTop (mkF m 125 #[.val (.int p1), .val (.int p2), .val (.long q3), .second, .val (.int (p1 &&& (7 : Int32))), .val (.int ((XT.ushr p1 (3 : Int32)) &&& (7 : Int32))), .val (.ref o1), .val (.ref o6), .unset, .unset, .unset, .unset] [(.int ((XT.ushrL q3 (24 : Int32)) &&& (255 : Int64)).toInt32), (.int (3 : Int32)), (.ref o6)])) _
    refine XT.i2c X9.here hx rfl (hb hby at_125) rfl ?_
    show Steps p.tables e below (T9.setTop (mkF m 126 #[.val (.int p1), .val (.int p2), .val (.long q3), .second, .val (.int (p1 &&& (7 : Int32))), .val (.int ((XT.ushr p1 (3 : Int32)) &&& (7 : Int32))), .val (.ref o1), .val (.ref o6), .unset, .unset, .unset, .unset] [(.int (f0_7 p1 p2 q3 cz)), (.int (3 : Int32)), (.ref o6)])) _
    refine st10 _ ?_
    show Steps p.tables e below (T10.setTop (mkF m 127 #[.val (.int p1), .val (.int p2), .val (.long q3), .second, .val (.int (p1 &&& (7 : Int32))), .val (.int ((XT.ushr p1 (3 : Int32)) &&& (7 : Int32))), .val (.ref o1), .val (.ref o6), .unset, .unset, .unset, .unset] [])) _
    refine XS.aload X10.here hx rfl (hb hby at_127) rfl rfl ?_
    show Steps p.tables e below (T10.setTop (mkF m 129 #[.val (.int p1), .val (.int p2), .val (.long q3), .second, .val (.int (p1 &&& (7 : Int32))), .val (.int ((XT.ushr p1 (3 : Int32)) &&& (7 : Int32))), .val (.ref o1), .val (.ref o6), .unset, .unset, .unset, .unset] [(.ref o6)])) _
    refine XS.iconst X10.here hx rfl (hb hby at_129) ?_
    show Steps p.tables e below (T10.setTop (mkF m 130 #[.val (.int p1), .val (.int p2), .val (.long q3), .second, .val (.int (p1 &&& (7 : Int32))), .val (.int ((XT.ushr p1 (3 : Int32)) &&& (7 : Int32))), .val (.ref o1), .val (.ref o6), .unset, .unset, .unset, .unset] [(.int (4 : Int32)), (.ref o6)])) _
    refine XT.lloadN X10.here hx rfl (hb hby at_130) rfl ?_
    show Steps p.tables e below (T10.setTop (mkF m 131 #[.val (.int p1), .val (.int p2), .val (.long q3), .second, .val (.int (p1 &&& (7 : Int32))), .val (.int ((XT.ushr p1 (3 : Int32)) &&& (7 : Int32))), .val (.ref o1), .val (.ref o6), .unset, .unset, .unset, .unset] [(.long q3), (.int (4 : Int32)), (.ref o6)])) _
    refine XS.bipush X10.here hx rfl (hb hby at_131) ?_
    show Steps p.tables e below (T10.setTop (mkF m 133 #[.val (.int p1), .val (.int p2), .val (.long q3), .second, .val (.int (p1 &&& (7 : Int32))), .val (.int ((XT.ushr p1 (3 : Int32)) &&& (7 : Int32))), .val (.ref o1), .val (.ref o6), .unset, .unset, .unset, .unset] [(.int (32 : Int32)), (.long q3), (.int (4 : Int32)), (.ref o6)])) _
    refine XT.lushr X10.here hx rfl (hb hby at_133) rfl ?_
    show Steps p.tables e below (T10.setTop (mkF m 134 #[.val (.int p1), .val (.int p2), .val (.long q3), .second, .val (.int (p1 &&& (7 : Int32))), .val (.int ((XT.ushr p1 (3 : Int32)) &&& (7 : Int32))), .val (.ref o1), .val (.ref o6), .unset, .unset, .unset, .unset] [(.long (XT.ushrL q3 (32 : Int32))), (.int (4 : Int32)), (.ref o6)])) _
    refine X10.ldc2Long hx hown (mvT hZ (hw _ (List.mem_of_getElem? (i := 1) rfl))) (g := (mkF m 134 #[.val (.int p1), .val (.int p2), .val (.long q3), .second, .val (.int (p1 &&& (7 : Int32))), .val (.int ((XT.ushr p1 (3 : Int32)) &&& (7 : Int32))), .val (.ref o1), .val (.ref o6), .unset, .unset, .unset, .unset] [(.long (XT.ushrL q3 (32 : Int32))), (.int (4 : Int32)), (.ref o6)])) rfl (hb hby at_134) _ ?_
    show Steps p.tables e below (T10.setTop (mkF m 137 #[.val (.int p1), .val (.int p2), .val (.long q3), .second, .val (.int (p1 &&& (7 : Int32))), .val (.int ((XT.ushr p1 (3 : Int32)) &&& (7 : Int32))), .val (.ref o1), .val (.ref o6), .unset, .unset, .unset, .unset] [(.long (255 : Int64)), (.long (XT.ushrL q3 (32 : Int32))), (.int (4 : Int32)), (.ref o6)])) _
    refine XT.land X10.here hx rfl (hb hby at_137) rfl ?_
    show Steps p.tables e below (T10.setTop (mkF m 138 #[.val (.int p1), .val (.int p2), .val (.long q3), .second, .val (.int (p1 &&& (7 : Int32))), .val (.int ((XT.ushr p1 (3 : Int32)) &&& (7 : Int32))), .val (.ref o1), .val (.ref o6), .unset, .unset, .unset, .unset] [(.long ((XT.ushrL q3 (32 : Int32)) &&& (255 : Int64))), (.int (4 : Int32)), (.ref o6)])) _
    refine XT.l2i X10.here hx rfl (hb hby at_138) rfl ?_
    show Steps p.tables e below (T10.setTop (mkF m 139 #[.val (.int p1), .val (.int p2), .val (.long q3), .second, .val (.int (p1 &&& (7 : Int32))), .val (.int ((XT.ushr p1 (3 : Int32)) &&& (7 : Int32))), .val (.ref o1), .val (.ref o6), .unset, .unset, .unset, .unset] [(.int ((XT.ushrL q3 (32 : Int32)) &&& (255 : Int64)).toInt32), (.int (4 : Int32)), (.ref o6)])) _
    refine XT.i2c X10.here hx rfl (hb hby at_139) rfl ?_
    show Steps p.tables e below (T10.setTop (mkF m 140 #[.val (.int p1), .val (.int p2), .val (.long q3), .second, .val (.int (p1 &&& (7 : Int32))), .val (.int ((XT.ushr p1 (3 : Int32)) &&& (7 : Int32))), .val (.ref o1), .val (.ref o6), .unset, .unset, .unset, .unset] [(.int (f0_8 p1 p2 q3 cz)), (.int (4 : Int32)), (.ref o6)])) _
    refine st11 _ ?_
    show Steps p.tables e below (T11.setTop (mkF m 141 #[.val (.int p1), .val (.int p2), .val (.long q3), .second, .val (.int (p1 &&& (7 : Int32))), .val (.int ((XT.ushr p1 (3 : Int32)) &&& (7 : Int32))), .val (.ref o1), .val (.ref o6), .unset, .unset, .unset, .unset] [])) _
    refine XS.aload X11.here hx rfl (hb hby at_141) rfl rfl ?_
    show Steps p.tables e below (T11.setTop (mkF m 143 #[.val (.int p1), .val (.int p2), .val (.long q3), .second, .val (.int (p1 &&& (7 : Int32))), .val (.int ((XT.ushr p1 (3 : Int32)) &&& (7 : Int32))), .val (.ref o1), .val (.ref o6), .unset, .unset, .unset, .unset] [(.ref o6)])) _
    refine XS.iconst X11.here hx rfl (hb hby at_143) ?_
    show Steps p.tables e below (T11.setTop (mkF m 144 #[.val (.int p1), .val (.int p2), .val (.long q3), .second, .val (.int (p1 &&& (7 : Int32))), .val (.int ((XT.ushr p1 (3 : Int32)) &&& (7 : Int32))), .val (.ref o1), .val (.ref o6), .unset, .unset, .unset, .unset] [(.int (5 : Int32)), (.ref o6)])) _
    refine XT.lloadN X11.here hx rfl (hb hby at_144) rfl ?_
    show Steps p.tables e below (T11.setTop (mkF m 145 #[.val (.int p1), .val (.int p2), .val (.long q3), .second, .val (.int (p1 &&& (7 : Int32))), .val (.int ((XT.ushr p1 (3 : Int32)) &&& (7 : Int32))), .val (.ref o1), .val (.ref o6), .unset, .unset, .unset, .unset] [(.long q3), (.int (5 : Int32)), (.ref o6)])) _
    refine XS.bipush X11.here hx rfl (hb hby at_145) ?_
    show Steps p.tables e below (T11.setTop (mkF m 147 #[.val (.int p1), .val (.int p2), .val (.long q3), .second, .val (.int (p1 &&& (7 : Int32))), .val (.int ((XT.ushr p1 (3 : Int32)) &&& (7 : Int32))), .val (.ref o1), .val (.ref o6), .unset, .unset, .unset, .unset] [(.int (40 : Int32)), (.long q3), (.int (5 : Int32)), (.ref o6)])) _
    refine XT.lushr X11.here hx rfl (hb hby at_147) rfl ?_
    show Steps p.tables e below (T11.setTop (mkF m 148 #[.val (.int p1), .val (.int p2), .val (.long q3), .second, .val (.int (p1 &&& (7 : Int32))), .val (.int ((XT.ushr p1 (3 : Int32)) &&& (7 : Int32))), .val (.ref o1), .val (.ref o6), .unset, .unset, .unset, .unset] [(.long (XT.ushrL q3 (40 : Int32))), (.int (5 : Int32)), (.ref o6)])) _
    refine X11.ldc2Long hx hown (mvT hZ (hw _ (List.mem_of_getElem? (i := 1) rfl))) (g := (mkF m 148 #[.val (.int p1), .val (.int p2), .val (.long q3), .second, .val (.int (p1 &&& (7 : Int32))), .val (.int ((XT.ushr p1 (3 : Int32)) &&& (7 : Int32))), .val (.ref o1), .val (.ref o6), .unset, .unset, .unset, .unset] [(.long (XT.ushrL q3 (40 : Int32))), (.int (5 : Int32)), (.ref o6)])) rfl (hb hby at_148) _ ?_
    show Steps p.tables e below (T11.setTop (mkF m 151 #[.val (.int p1), .val (.int p2), .val (.long q3), .second, .val (.int (p1 &&& (7 : Int32))), .val (.int ((XT.ushr p1 (3 : Int32)) &&& (7 : Int32))), .val (.ref o1), .val (.ref o6), .unset, .unset, .unset, .unset] [(.long (255 : Int64)), (.long (XT.ushrL q3 (40 : Int32))), (.int (5 : Int32)), (.ref o6)])) _
    refine XT.land X11.here hx rfl (hb hby at_151) rfl ?_
    show Steps p.tables e below (T11.setTop (mkF m 152 #[.val (.int p1), .val (.int p2), .val (.long q3), .second, .val (.int (p1 &&& (7 : Int32))), .val (.int ((XT.ushr p1 (3 : Int32)) &&& (7 : Int32))), .val (.ref o1), .val (.ref o6), .unset, .unset, .unset, .unset] [(.long ((XT.ushrL q3 (40 : Int32)) &&& (255 : Int64))), (.int (5 : Int32)), (.ref o6)])) _
    refine XT.l2i X11.here hx rfl (hb hby at_152) rfl ?_
    show Steps p.tables e below (T11.setTop (mkF m 153 #[.val (.int p1), .val (.int p2), .val (.long q3), .second, .val (.int (p1 &&& (7 : Int32))), .val (.int ((XT.ushr p1 (3 : Int32)) &&& (7 : Int32))), .val (.ref o1), .val (.ref o6), .unset, .unset, .unset, .unset] [(.int ((XT.ushrL q3 (40 : Int32)) &&& (255 : Int64)).toInt32), (.int (5 : Int32)), (.ref o6)])) _
    refine XT.i2c X11.here hx rfl (hb hby at_153) rfl ?_
    show Steps p.tables e below (T11.setTop (mkF m 154 #[.val (.int p1), .val (.int p2), .val (.long q3), .second, .val (.int (p1 &&& (7 : Int32))), .val (.int ((XT.ushr p1 (3 : Int32)) &&& (7 : Int32))), .val (.ref o1), .val (.ref o6), .unset, .unset, .unset, .unset] [(.int (f0_9 p1 p2 q3 cz)), (.int (5 : Int32)), (.ref o6)])) _
    refine st12 _ ?_
    exact k
  have CR14 := CR0.trans (CHr.ext (own_extK K12) CR0.1)
  have hk14 := Nat.le_trans hk0 (own_extK K12).1
  obtain ⟨T13, vm13, lo13, h13, ad13, kn13, X13, e13, E13, hS13, hk13, hZ, hown, N13, CR13, TT13, st13⟩ : ∃ (T' : State) (vm' : Vm) (lo : List Loc) (h' : Heap) (ad13 : Addr) (k' : Nat) (_ : Stand p l e room_1 (s.setVm vm') m #[(.int p1), (.int p2), (.long q3)] below meth c T' lo 4 34), T'.heap = h' ∧ Ext h12 h' ∧ s.Since vm' k' ∧ k' ≤ h'.size ∧ Z.Warmed39 (s.setVm vm').vm ∧ (s.setVm vm').vm.findClass "com/example/medspan/medspan/OpioidsIsPatchPinLaw" = some m.cls ∧ Fr n0 lo ∧ CHr Z consts_1 s.vm h0 vm' h' ∧ own_Str Z h' ad13 (f0_c13 p1 p2 q3 cz) ∧ ∀ t, Steps p.tables e below (T'.setTop (mkF m 357 #[.val (.int p1), .val (.int p2), .val (.long q3), .second, .val (.int (p1 &&& (7 : Int32))), .val (.int ((XT.ushr p1 (3 : Int32)) &&& (7 : Int32))), .val (.ref o1), .val (.ref o6), .val (.ref ad13), .val (.int (f0_o13 p1 p2 q3 cz)), .unset, .unset] [])) t → Steps p.tables e below (T12.setTop (mkF m 155 #[.val (.int p1), .val (.int p2), .val (.long q3), .second, .val (.int (p1 &&& (7 : Int32))), .val (.int ((XT.ushr p1 (3 : Int32)) &&& (7 : Int32))), .val (.ref o1), .val (.ref o6), .unset, .unset, .unset, .unset] [])) t := by
    by_cases hc13_0 : (p1 &&& (7 : Int32)) = (0 : Int32)
    · have h15 : (p1 &&& (7 : Int32)) = (0 : Int32) := hc13_0
      obtain ⟨lit16, T16, h16, kn16, b16, kb16, X16, e16, E16, hS16, hk16, hZ, hown, Ex16, Fc16, Fv16, V16, -, -, CH16, -, -, st16⟩ := ldcCH X12 hx hZ hown (hw _ (List.mem_of_getElem? (i := 2) rfl)) (own_wS hw) e12 hS0 hk14 (own_EW hw) (List.mem_of_getElem? (i := 3) rfl) CR14.1 (vs := [.int (49 : Int32), .int (56 : Int32), .int (49 : Int32), .int (57 : Int32)]) (z := (4 : Int32)) ⟨by decide, rfl⟩ (by decide) rfl (g := (mkF m 160 #[.val (.int p1), .val (.int p2), .val (.long q3), .second, .val (.int (p1 &&& (7 : Int32))), .val (.int ((XT.ushr p1 (3 : Int32)) &&& (7 : Int32))), .val (.ref o1), .val (.ref o6), .unset, .unset, .unset, .unset] [])) rfl (hb hby at_160) (n := 16) (by decide) (by decide) (by decide) (by decide)
      have u16_0 := u12_0.ext E16
      have u16_1 := V12.ext E16
      have Z16 : n0 ≤ h16.size := Nat.le_trans Z12 E16.1
      have K16 := K12.ext E16
      have OL16 := OL12.ext E16
      have CR16 := CR14.trans CH16
      have T_16 : own_Str Z h16 lit16 ([49, 56, 49, 57] : List Int32) := own_Str.of Ex16 Fv16 Fc16 V16 rfl rfl (by decide) (by decide)
      rw [show (f0_c13 p1 p2 q3 cz) = ([49, 56, 49, 57] : List Int32) from by simp only [f0_c13, if_pos hc13_0], show (f0_o13 p1 p2 q3 cz) = (1 : Int32) from by simp only [f0_o13, if_pos hc13_0]]
      refine ⟨T16, T16.vm, _, h16, lit16, _, X16.more (by decide) (by decide), e16, E16, hS16, hk16, hZ, hown, N12, CR16, T_16, fun t k => ?_⟩
      show Steps p.tables e below (T12.setTop (mkF m 155 #[.val (.int p1), .val (.int p2), .val (.long q3), .second, .val (.int (p1 &&& (7 : Int32))), .val (.int ((XT.ushr p1 (3 : Int32)) &&& (7 : Int32))), .val (.ref o1), .val (.ref o6), .unset, .unset, .unset, .unset] [])) _
      refine XS.iload X12.here hx rfl (hb hby at_155) rfl ?_
      show Steps p.tables e below (T12.setTop (mkF m 157 #[.val (.int p1), .val (.int p2), .val (.long q3), .second, .val (.int (p1 &&& (7 : Int32))), .val (.int ((XT.ushr p1 (3 : Int32)) &&& (7 : Int32))), .val (.ref o1), .val (.ref o6), .unset, .unset, .unset, .unset] [(.int (p1 &&& (7 : Int32)))])) _
      refine XS.ifNo X12.here hx rfl (hb hby at_157) rfl ((if0 _ _).trans (teq h15).2) ?_
      show Steps p.tables e below (T12.setTop (mkF m 160 #[.val (.int p1), .val (.int p2), .val (.long q3), .second, .val (.int (p1 &&& (7 : Int32))), .val (.int ((XT.ushr p1 (3 : Int32)) &&& (7 : Int32))), .val (.ref o1), .val (.ref o6), .unset, .unset, .unset, .unset] [])) _
      refine st16 _ ?_
      show Steps p.tables e below (T16.setTop (mkF m 162 #[.val (.int p1), .val (.int p2), .val (.long q3), .second, .val (.int (p1 &&& (7 : Int32))), .val (.int ((XT.ushr p1 (3 : Int32)) &&& (7 : Int32))), .val (.ref o1), .val (.ref o6), .unset, .unset, .unset, .unset] [(.ref lit16)])) _
      refine XS.astore X16.here hx rfl (hb hby at_162) rfl rfl (l' := #[.val (.int p1), .val (.int p2), .val (.long q3), .second, .val (.int (p1 &&& (7 : Int32))), .val (.int ((XT.ushr p1 (3 : Int32)) &&& (7 : Int32))), .val (.ref o1), .val (.ref o6), .val (.ref lit16), .unset, .unset, .unset]) rfl ?_
      show Steps p.tables e below (T16.setTop (mkF m 164 #[.val (.int p1), .val (.int p2), .val (.long q3), .second, .val (.int (p1 &&& (7 : Int32))), .val (.int ((XT.ushr p1 (3 : Int32)) &&& (7 : Int32))), .val (.ref o1), .val (.ref o6), .val (.ref lit16), .unset, .unset, .unset] [])) _
      refine XS.iconst X16.here hx rfl (hb hby at_164) ?_
      show Steps p.tables e below (T16.setTop (mkF m 165 #[.val (.int p1), .val (.int p2), .val (.long q3), .second, .val (.int (p1 &&& (7 : Int32))), .val (.int ((XT.ushr p1 (3 : Int32)) &&& (7 : Int32))), .val (.ref o1), .val (.ref o6), .val (.ref lit16), .unset, .unset, .unset] [(.int (1 : Int32))])) _
      refine XS.istore X16.here hx rfl (hb hby at_165) rfl (l' := #[.val (.int p1), .val (.int p2), .val (.long q3), .second, .val (.int (p1 &&& (7 : Int32))), .val (.int ((XT.ushr p1 (3 : Int32)) &&& (7 : Int32))), .val (.ref o1), .val (.ref o6), .val (.ref lit16), .val (.int (1 : Int32)), .unset, .unset]) rfl ?_
      show Steps p.tables e below (T16.setTop (mkF m 167 #[.val (.int p1), .val (.int p2), .val (.long q3), .second, .val (.int (p1 &&& (7 : Int32))), .val (.int ((XT.ushr p1 (3 : Int32)) &&& (7 : Int32))), .val (.ref o1), .val (.ref o6), .val (.ref lit16), .val (.int (1 : Int32)), .unset, .unset] [])) _
      refine XS.goto X16.here hx rfl (pc0 := 167) (pc' := 357) rfl (hb hby at_167) (by decide) (by decide) ?_
      exact k
    · skip
      by_cases hc13_1 : (p1 &&& (7 : Int32)) = (1 : Int32)
      · have h17 : ¬ ((p1 &&& (7 : Int32)) = (0 : Int32)) := hc13_0
        have h18 : (p1 &&& (7 : Int32)) = (1 : Int32) := hc13_1
        obtain ⟨lit19, T19, h19, kn19, b19, kb19, X19, e19, E19, hS19, hk19, hZ, hown, Ex19, Fc19, Fv19, V19, -, -, CH19, -, -, st19⟩ := ldcCH X12 hx hZ hown (hw _ (List.mem_of_getElem? (i := 58) rfl)) (own_wS hw) e12 hS0 hk14 (own_EW hw) (List.mem_of_getElem? (i := 4) rfl) CR14.1 (vs := [.int (52 : Int32), .int (51 : Int32), .int (51 : Int32), .int (55 : Int32)]) (z := (4 : Int32)) ⟨by decide, rfl⟩ (by decide) rfl (g := (mkF m 176 #[.val (.int p1), .val (.int p2), .val (.long q3), .second, .val (.int (p1 &&& (7 : Int32))), .val (.int ((XT.ushr p1 (3 : Int32)) &&& (7 : Int32))), .val (.ref o1), .val (.ref o6), .unset, .unset, .unset, .unset] [])) rfl (hb hby at_176) (n := 16) (by decide) (by decide) (by decide) (by decide)
        have u19_0 := u12_0.ext E19
        have u19_1 := V12.ext E19
        have Z19 : n0 ≤ h19.size := Nat.le_trans Z12 E19.1
        have K19 := K12.ext E19
        have OL19 := OL12.ext E19
        have CR19 := CR14.trans CH19
        have T_19 : own_Str Z h19 lit19 ([52, 51, 51, 55] : List Int32) := own_Str.of Ex19 Fv19 Fc19 V19 rfl rfl (by decide) (by decide)
        rw [show (f0_c13 p1 p2 q3 cz) = ([52, 51, 51, 55] : List Int32) from by simp only [f0_c13, if_neg hc13_0, if_pos hc13_1], show (f0_o13 p1 p2 q3 cz) = (1 : Int32) from by simp only [f0_o13, if_neg hc13_0, if_pos hc13_1]]
        refine ⟨T19, T19.vm, _, h19, lit19, _, X19.more (by decide) (by decide), e19, E19, hS19, hk19, hZ, hown, N12, CR19, T_19, fun t k => ?_⟩
        show Steps p.tables e below (T12.setTop (mkF m 155 #[.val (.int p1), .val (.int p2), .val (.long q3), .second, .val (.int (p1 &&& (7 : Int32))), .val (.int ((XT.ushr p1 (3 : Int32)) &&& (7 : Int32))), .val (.ref o1), .val (.ref o6), .unset, .unset, .unset, .unset] [])) _
        refine XS.iload X12.here hx rfl (hb hby at_155) rfl ?_
        show Steps p.tables e below (T12.setTop (mkF m 157 #[.val (.int p1), .val (.int p2), .val (.long q3), .second, .val (.int (p1 &&& (7 : Int32))), .val (.int ((XT.ushr p1 (3 : Int32)) &&& (7 : Int32))), .val (.ref o1), .val (.ref o6), .unset, .unset, .unset, .unset] [(.int (p1 &&& (7 : Int32)))])) _
        refine XS.ifYes X12.here hx rfl (pc0 := 157) (pc' := 170) rfl (hb hby at_157) rfl ((if0 _ _).trans (feq h17).2) (by decide) (by decide) ?_
        show Steps p.tables e below (T12.setTop (mkF m 170 #[.val (.int p1), .val (.int p2), .val (.long q3), .second, .val (.int (p1 &&& (7 : Int32))), .val (.int ((XT.ushr p1 (3 : Int32)) &&& (7 : Int32))), .val (.ref o1), .val (.ref o6), .unset, .unset, .unset, .unset] [])) _
        refine XS.iload X12.here hx rfl (hb hby at_170) rfl ?_
        show Steps p.tables e below (T12.setTop (mkF m 172 #[.val (.int p1), .val (.int p2), .val (.long q3), .second, .val (.int (p1 &&& (7 : Int32))), .val (.int ((XT.ushr p1 (3 : Int32)) &&& (7 : Int32))), .val (.ref o1), .val (.ref o6), .unset, .unset, .unset, .unset] [(.int (p1 &&& (7 : Int32)))])) _
        refine XS.iconst X12.here hx rfl (hb hby at_172) ?_
        show Steps p.tables e below (T12.setTop (mkF m 173 #[.val (.int p1), .val (.int p2), .val (.long q3), .second, .val (.int (p1 &&& (7 : Int32))), .val (.int ((XT.ushr p1 (3 : Int32)) &&& (7 : Int32))), .val (.ref o1), .val (.ref o6), .unset, .unset, .unset, .unset] [(.int (1 : Int32)), (.int (p1 &&& (7 : Int32)))])) _
        refine XS.icmpNo X12.here hx rfl (hb hby at_173) rfl (teq h18).2 ?_
        show Steps p.tables e below (T12.setTop (mkF m 176 #[.val (.int p1), .val (.int p2), .val (.long q3), .second, .val (.int (p1 &&& (7 : Int32))), .val (.int ((XT.ushr p1 (3 : Int32)) &&& (7 : Int32))), .val (.ref o1), .val (.ref o6), .unset, .unset, .unset, .unset] [])) _
        refine st19 _ ?_
        show Steps p.tables e below (T19.setTop (mkF m 178 #[.val (.int p1), .val (.int p2), .val (.long q3), .second, .val (.int (p1 &&& (7 : Int32))), .val (.int ((XT.ushr p1 (3 : Int32)) &&& (7 : Int32))), .val (.ref o1), .val (.ref o6), .unset, .unset, .unset, .unset] [(.ref lit19)])) _
        refine XS.astore X19.here hx rfl (hb hby at_178) rfl rfl (l' := #[.val (.int p1), .val (.int p2), .val (.long q3), .second, .val (.int (p1 &&& (7 : Int32))), .val (.int ((XT.ushr p1 (3 : Int32)) &&& (7 : Int32))), .val (.ref o1), .val (.ref o6), .val (.ref lit19), .unset, .unset, .unset]) rfl ?_
        show Steps p.tables e below (T19.setTop (mkF m 180 #[.val (.int p1), .val (.int p2), .val (.long q3), .second, .val (.int (p1 &&& (7 : Int32))), .val (.int ((XT.ushr p1 (3 : Int32)) &&& (7 : Int32))), .val (.ref o1), .val (.ref o6), .val (.ref lit19), .unset, .unset, .unset] [])) _
        refine XS.iconst X19.here hx rfl (hb hby at_180) ?_
        show Steps p.tables e below (T19.setTop (mkF m 181 #[.val (.int p1), .val (.int p2), .val (.long q3), .second, .val (.int (p1 &&& (7 : Int32))), .val (.int ((XT.ushr p1 (3 : Int32)) &&& (7 : Int32))), .val (.ref o1), .val (.ref o6), .val (.ref lit19), .unset, .unset, .unset] [(.int (1 : Int32))])) _
        refine XS.istore X19.here hx rfl (hb hby at_181) rfl (l' := #[.val (.int p1), .val (.int p2), .val (.long q3), .second, .val (.int (p1 &&& (7 : Int32))), .val (.int ((XT.ushr p1 (3 : Int32)) &&& (7 : Int32))), .val (.ref o1), .val (.ref o6), .val (.ref lit19), .val (.int (1 : Int32)), .unset, .unset]) rfl ?_
        show Steps p.tables e below (T19.setTop (mkF m 183 #[.val (.int p1), .val (.int p2), .val (.long q3), .second, .val (.int (p1 &&& (7 : Int32))), .val (.int ((XT.ushr p1 (3 : Int32)) &&& (7 : Int32))), .val (.ref o1), .val (.ref o6), .val (.ref lit19), .val (.int (1 : Int32)), .unset, .unset] [])) _
        refine XS.goto X19.here hx rfl (pc0 := 183) (pc' := 357) rfl (hb hby at_183) (by decide) (by decide) ?_
        exact k
      · skip
        by_cases hc13_2 : (p1 &&& (7 : Int32)) = (2 : Int32)
        · have h20 : ¬ ((p1 &&& (7 : Int32)) = (0 : Int32)) := hc13_0
          have h21 : ¬ ((p1 &&& (7 : Int32)) = (1 : Int32)) := hc13_1
          have h22 : (p1 &&& (7 : Int32)) = (2 : Int32) := hc13_2
          obtain ⟨lit23, T23, h23, kn23, b23, kb23, X23, e23, E23, hS23, hk23, hZ, hown, Ex23, Fc23, Fv23, V23, -, -, CH23, -, -, st23⟩ := ldcCH X12 hx hZ hown (hw _ (List.mem_of_getElem? (i := 55) rfl)) (own_wS hw) e12 hS0 hk14 (own_EW hw) (List.mem_of_getElem? (i := 5) rfl) CR14.1 (vs := [.int (54 : Int32), .int (56 : Int32), .int (49 : Int32), .int (51 : Int32)]) (z := (4 : Int32)) ⟨by decide, rfl⟩ (by decide) rfl (g := (mkF m 192 #[.val (.int p1), .val (.int p2), .val (.long q3), .second, .val (.int (p1 &&& (7 : Int32))), .val (.int ((XT.ushr p1 (3 : Int32)) &&& (7 : Int32))), .val (.ref o1), .val (.ref o6), .unset, .unset, .unset, .unset] [])) rfl (hb hby at_192) (n := 16) (by decide) (by decide) (by decide) (by decide)
          have u23_0 := u12_0.ext E23
          have u23_1 := V12.ext E23
          have Z23 : n0 ≤ h23.size := Nat.le_trans Z12 E23.1
          have K23 := K12.ext E23
          have OL23 := OL12.ext E23
          have CR23 := CR14.trans CH23
          have T_23 : own_Str Z h23 lit23 ([54, 56, 49, 51] : List Int32) := own_Str.of Ex23 Fv23 Fc23 V23 rfl rfl (by decide) (by decide)
          rw [show (f0_c13 p1 p2 q3 cz) = ([54, 56, 49, 51] : List Int32) from by simp only [f0_c13, if_neg hc13_0, if_neg hc13_1, if_pos hc13_2], show (f0_o13 p1 p2 q3 cz) = (0 : Int32) from by simp only [f0_o13, if_neg hc13_0, if_neg hc13_1, if_pos hc13_2]]
          refine ⟨T23, T23.vm, _, h23, lit23, _, X23.more (by decide) (by decide), e23, E23, hS23, hk23, hZ, hown, N12, CR23, T_23, fun t k => ?_⟩
          show Steps p.tables e below (T12.setTop (mkF m 155 #[.val (.int p1), .val (.int p2), .val (.long q3), .second, .val (.int (p1 &&& (7 : Int32))), .val (.int ((XT.ushr p1 (3 : Int32)) &&& (7 : Int32))), .val (.ref o1), .val (.ref o6), .unset, .unset, .unset, .unset] [])) _
          refine XS.iload X12.here hx rfl (hb hby at_155) rfl ?_
          show Steps p.tables e below (T12.setTop (mkF m 157 #[.val (.int p1), .val (.int p2), .val (.long q3), .second, .val (.int (p1 &&& (7 : Int32))), .val (.int ((XT.ushr p1 (3 : Int32)) &&& (7 : Int32))), .val (.ref o1), .val (.ref o6), .unset, .unset, .unset, .unset] [(.int (p1 &&& (7 : Int32)))])) _
          refine XS.ifYes X12.here hx rfl (pc0 := 157) (pc' := 170) rfl (hb hby at_157) rfl ((if0 _ _).trans (feq h20).2) (by decide) (by decide) ?_
          show Steps p.tables e below (T12.setTop (mkF m 170 #[.val (.int p1), .val (.int p2), .val (.long q3), .second, .val (.int (p1 &&& (7 : Int32))), .val (.int ((XT.ushr p1 (3 : Int32)) &&& (7 : Int32))), .val (.ref o1), .val (.ref o6), .unset, .unset, .unset, .unset] [])) _
          refine XS.iload X12.here hx rfl (hb hby at_170) rfl ?_
          show Steps p.tables e below (T12.setTop (mkF m 172 #[.val (.int p1), .val (.int p2), .val (.long q3), .second, .val (.int (p1 &&& (7 : Int32))), .val (.int ((XT.ushr p1 (3 : Int32)) &&& (7 : Int32))), .val (.ref o1), .val (.ref o6), .unset, .unset, .unset, .unset] [(.int (p1 &&& (7 : Int32)))])) _
          refine XS.iconst X12.here hx rfl (hb hby at_172) ?_
          show Steps p.tables e below (T12.setTop (mkF m 173 #[.val (.int p1), .val (.int p2), .val (.long q3), .second, .val (.int (p1 &&& (7 : Int32))), .val (.int ((XT.ushr p1 (3 : Int32)) &&& (7 : Int32))), .val (.ref o1), .val (.ref o6), .unset, .unset, .unset, .unset] [(.int (1 : Int32)), (.int (p1 &&& (7 : Int32)))])) _
          refine XS.icmpYes X12.here hx rfl (pc0 := 173) (pc' := 186) rfl (hb hby at_173) rfl (feq h21).2 (by decide) (by decide) ?_
          show Steps p.tables e below (T12.setTop (mkF m 186 #[.val (.int p1), .val (.int p2), .val (.long q3), .second, .val (.int (p1 &&& (7 : Int32))), .val (.int ((XT.ushr p1 (3 : Int32)) &&& (7 : Int32))), .val (.ref o1), .val (.ref o6), .unset, .unset, .unset, .unset] [])) _
          refine XS.iload X12.here hx rfl (hb hby at_186) rfl ?_
          show Steps p.tables e below (T12.setTop (mkF m 188 #[.val (.int p1), .val (.int p2), .val (.long q3), .second, .val (.int (p1 &&& (7 : Int32))), .val (.int ((XT.ushr p1 (3 : Int32)) &&& (7 : Int32))), .val (.ref o1), .val (.ref o6), .unset, .unset, .unset, .unset] [(.int (p1 &&& (7 : Int32)))])) _
          refine XS.iconst X12.here hx rfl (hb hby at_188) ?_
          show Steps p.tables e below (T12.setTop (mkF m 189 #[.val (.int p1), .val (.int p2), .val (.long q3), .second, .val (.int (p1 &&& (7 : Int32))), .val (.int ((XT.ushr p1 (3 : Int32)) &&& (7 : Int32))), .val (.ref o1), .val (.ref o6), .unset, .unset, .unset, .unset] [(.int (2 : Int32)), (.int (p1 &&& (7 : Int32)))])) _
          refine XS.icmpNo X12.here hx rfl (hb hby at_189) rfl (teq h22).2 ?_
          show Steps p.tables e below (T12.setTop (mkF m 192 #[.val (.int p1), .val (.int p2), .val (.long q3), .second, .val (.int (p1 &&& (7 : Int32))), .val (.int ((XT.ushr p1 (3 : Int32)) &&& (7 : Int32))), .val (.ref o1), .val (.ref o6), .unset, .unset, .unset, .unset] [])) _
          refine st23 _ ?_
          show Steps p.tables e below (T23.setTop (mkF m 194 #[.val (.int p1), .val (.int p2), .val (.long q3), .second, .val (.int (p1 &&& (7 : Int32))), .val (.int ((XT.ushr p1 (3 : Int32)) &&& (7 : Int32))), .val (.ref o1), .val (.ref o6), .unset, .unset, .unset, .unset] [(.ref lit23)])) _
          refine XS.astore X23.here hx rfl (hb hby at_194) rfl rfl (l' := #[.val (.int p1), .val (.int p2), .val (.long q3), .second, .val (.int (p1 &&& (7 : Int32))), .val (.int ((XT.ushr p1 (3 : Int32)) &&& (7 : Int32))), .val (.ref o1), .val (.ref o6), .val (.ref lit23), .unset, .unset, .unset]) rfl ?_
          show Steps p.tables e below (T23.setTop (mkF m 196 #[.val (.int p1), .val (.int p2), .val (.long q3), .second, .val (.int (p1 &&& (7 : Int32))), .val (.int ((XT.ushr p1 (3 : Int32)) &&& (7 : Int32))), .val (.ref o1), .val (.ref o6), .val (.ref lit23), .unset, .unset, .unset] [])) _
          refine XS.iconst X23.here hx rfl (hb hby at_196) ?_
          show Steps p.tables e below (T23.setTop (mkF m 197 #[.val (.int p1), .val (.int p2), .val (.long q3), .second, .val (.int (p1 &&& (7 : Int32))), .val (.int ((XT.ushr p1 (3 : Int32)) &&& (7 : Int32))), .val (.ref o1), .val (.ref o6), .val (.ref lit23), .unset, .unset, .unset] [(.int (0 : Int32))])) _
          refine XS.istore X23.here hx rfl (hb hby at_197) rfl (l' := #[.val (.int p1), .val (.int p2), .val (.long q3), .second, .val (.int (p1 &&& (7 : Int32))), .val (.int ((XT.ushr p1 (3 : Int32)) &&& (7 : Int32))), .val (.ref o1), .val (.ref o6), .val (.ref lit23), .val (.int (0 : Int32)), .unset, .unset]) rfl ?_
          show Steps p.tables e below (T23.setTop (mkF m 199 #[.val (.int p1), .val (.int p2), .val (.long q3), .second, .val (.int (p1 &&& (7 : Int32))), .val (.int ((XT.ushr p1 (3 : Int32)) &&& (7 : Int32))), .val (.ref o1), .val (.ref o6), .val (.ref lit23), .val (.int (0 : Int32)), .unset, .unset] [])) _
          refine XS.goto X23.here hx rfl (pc0 := 199) (pc' := 357) rfl (hb hby at_199) (by decide) (by decide) ?_
          exact k
        · skip
          by_cases hc13_3 : (p1 &&& (7 : Int32)) = (3 : Int32)
          · have h24 : ¬ ((p1 &&& (7 : Int32)) = (0 : Int32)) := hc13_0
            have h25 : ¬ ((p1 &&& (7 : Int32)) = (1 : Int32)) := hc13_1
            have h26 : ¬ ((p1 &&& (7 : Int32)) = (2 : Int32)) := hc13_2
            have h27 : (p1 &&& (7 : Int32)) = (3 : Int32) := hc13_3
            obtain ⟨lit28, T28, h28, kn28, b28, kb28, X28, e28, E28, hS28, hk28, hZ, hown, Ex28, Fc28, Fv28, V28, -, -, CH28, -, -, st28⟩ := ldcCH X12 hx hZ hown (hw _ (List.mem_of_getElem? (i := 54) rfl)) (own_wS hw) e12 hS0 hk14 (own_EW hw) (List.mem_of_getElem? (i := 6) rfl) CR14.1 (vs := [.int (55 : Int32), .int (48 : Int32), .int (53 : Int32), .int (50 : Int32)]) (z := (4 : Int32)) ⟨by decide, rfl⟩ (by decide) rfl (g := (mkF m 208 #[.val (.int p1), .val (.int p2), .val (.long q3), .second, .val (.int (p1 &&& (7 : Int32))), .val (.int ((XT.ushr p1 (3 : Int32)) &&& (7 : Int32))), .val (.ref o1), .val (.ref o6), .unset, .unset, .unset, .unset] [])) rfl (hb hby at_208) (n := 16) (by decide) (by decide) (by decide) (by decide)
            have u28_0 := u12_0.ext E28
            have u28_1 := V12.ext E28
            have Z28 : n0 ≤ h28.size := Nat.le_trans Z12 E28.1
            have K28 := K12.ext E28
            have OL28 := OL12.ext E28
            have CR28 := CR14.trans CH28
            have T_28 : own_Str Z h28 lit28 ([55, 48, 53, 50] : List Int32) := own_Str.of Ex28 Fv28 Fc28 V28 rfl rfl (by decide) (by decide)
            rw [show (f0_c13 p1 p2 q3 cz) = ([55, 48, 53, 50] : List Int32) from by simp only [f0_c13, if_neg hc13_0, if_neg hc13_1, if_neg hc13_2, if_pos hc13_3], show (f0_o13 p1 p2 q3 cz) = (0 : Int32) from by simp only [f0_o13, if_neg hc13_0, if_neg hc13_1, if_neg hc13_2, if_pos hc13_3]]
            refine ⟨T28, T28.vm, _, h28, lit28, _, X28.more (by decide) (by decide), e28, E28, hS28, hk28, hZ, hown, N12, CR28, T_28, fun t k => ?_⟩
            show Steps p.tables e below (T12.setTop (mkF m 155 #[.val (.int p1), .val (.int p2), .val (.long q3), .second, .val (.int (p1 &&& (7 : Int32))), .val (.int ((XT.ushr p1 (3 : Int32)) &&& (7 : Int32))), .val (.ref o1), .val (.ref o6), .unset, .unset, .unset, .unset] [])) _
            refine XS.iload X12.here hx rfl (hb hby at_155) rfl ?_
            show Steps p.tables e below (T12.setTop (mkF m 157 #[.val (.int p1), .val (.int p2), .val (.long q3), .second, .val (.int (p1 &&& (7 : Int32))), .val (.int ((XT.ushr p1 (3 : Int32)) &&& (7 : Int32))), .val (.ref o1), .val (.ref o6), .unset, .unset, .unset, .unset] [(.int (p1 &&& (7 : Int32)))])) _
            refine XS.ifYes X12.here hx rfl (pc0 := 157) (pc' := 170) rfl (hb hby at_157) rfl ((if0 _ _).trans (feq h24).2) (by decide) (by decide) ?_
            show Steps p.tables e below (T12.setTop (mkF m 170 #[.val (.int p1), .val (.int p2), .val (.long q3), .second, .val (.int (p1 &&& (7 : Int32))), .val (.int ((XT.ushr p1 (3 : Int32)) &&& (7 : Int32))), .val (.ref o1), .val (.ref o6), .unset, .unset, .unset, .unset] [])) _
            refine XS.iload X12.here hx rfl (hb hby at_170) rfl ?_
            show Steps p.tables e below (T12.setTop (mkF m 172 #[.val (.int p1), .val (.int p2), .val (.long q3), .second, .val (.int (p1 &&& (7 : Int32))), .val (.int ((XT.ushr p1 (3 : Int32)) &&& (7 : Int32))), .val (.ref o1), .val (.ref o6), .unset, .unset, .unset, .unset] [(.int (p1 &&& (7 : Int32)))])) _
            refine XS.iconst X12.here hx rfl (hb hby at_172) ?_
            show Steps p.tables e below (T12.setTop (mkF m 173 #[.val (.int p1), .val (.int p2), .val (.long q3), .second, .val (.int (p1 &&& (7 : Int32))), .val (.int ((XT.ushr p1 (3 : Int32)) &&& (7 : Int32))), .val (.ref o1), .val (.ref o6), .unset, .unset, .unset, .unset] [(.int (1 : Int32)), (.int (p1 &&& (7 : Int32)))])) _
            refine XS.icmpYes X12.here hx rfl (pc0 := 173) (pc' := 186) rfl (hb hby at_173) rfl (feq h25).2 (by decide) (by decide) ?_
            show Steps p.tables e below (T12.setTop (mkF m 186 #[.val (.int p1), .val (.int p2), .val (.long q3), .second, .val (.int (p1 &&& (7 : Int32))), .val (.int ((XT.ushr p1 (3 : Int32)) &&& (7 : Int32))), .val (.ref o1), .val (.ref o6), .unset, .unset, .unset, .unset] [])) _
            refine XS.iload X12.here hx rfl (hb hby at_186) rfl ?_
            show Steps p.tables e below (T12.setTop (mkF m 188 #[.val (.int p1), .val (.int p2), .val (.long q3), .second, .val (.int (p1 &&& (7 : Int32))), .val (.int ((XT.ushr p1 (3 : Int32)) &&& (7 : Int32))), .val (.ref o1), .val (.ref o6), .unset, .unset, .unset, .unset] [(.int (p1 &&& (7 : Int32)))])) _
            refine XS.iconst X12.here hx rfl (hb hby at_188) ?_
            show Steps p.tables e below (T12.setTop (mkF m 189 #[.val (.int p1), .val (.int p2), .val (.long q3), .second, .val (.int (p1 &&& (7 : Int32))), .val (.int ((XT.ushr p1 (3 : Int32)) &&& (7 : Int32))), .val (.ref o1), .val (.ref o6), .unset, .unset, .unset, .unset] [(.int (2 : Int32)), (.int (p1 &&& (7 : Int32)))])) _
            refine XS.icmpYes X12.here hx rfl (pc0 := 189) (pc' := 202) rfl (hb hby at_189) rfl (feq h26).2 (by decide) (by decide) ?_
            show Steps p.tables e below (T12.setTop (mkF m 202 #[.val (.int p1), .val (.int p2), .val (.long q3), .second, .val (.int (p1 &&& (7 : Int32))), .val (.int ((XT.ushr p1 (3 : Int32)) &&& (7 : Int32))), .val (.ref o1), .val (.ref o6), .unset, .unset, .unset, .unset] [])) _
            refine XS.iload X12.here hx rfl (hb hby at_202) rfl ?_
            show Steps p.tables e below (T12.setTop (mkF m 204 #[.val (.int p1), .val (.int p2), .val (.long q3), .second, .val (.int (p1 &&& (7 : Int32))), .val (.int ((XT.ushr p1 (3 : Int32)) &&& (7 : Int32))), .val (.ref o1), .val (.ref o6), .unset, .unset, .unset, .unset] [(.int (p1 &&& (7 : Int32)))])) _
            refine XS.iconst X12.here hx rfl (hb hby at_204) ?_
            show Steps p.tables e below (T12.setTop (mkF m 205 #[.val (.int p1), .val (.int p2), .val (.long q3), .second, .val (.int (p1 &&& (7 : Int32))), .val (.int ((XT.ushr p1 (3 : Int32)) &&& (7 : Int32))), .val (.ref o1), .val (.ref o6), .unset, .unset, .unset, .unset] [(.int (3 : Int32)), (.int (p1 &&& (7 : Int32)))])) _
            refine XS.icmpNo X12.here hx rfl (hb hby at_205) rfl (teq h27).2 ?_
            show Steps p.tables e below (T12.setTop (mkF m 208 #[.val (.int p1), .val (.int p2), .val (.long q3), .second, .val (.int (p1 &&& (7 : Int32))), .val (.int ((XT.ushr p1 (3 : Int32)) &&& (7 : Int32))), .val (.ref o1), .val (.ref o6), .unset, .unset, .unset, .unset] [])) _
            refine st28 _ ?_
            show Steps p.tables e below (T28.setTop (mkF m 210 #[.val (.int p1), .val (.int p2), .val (.long q3), .second, .val (.int (p1 &&& (7 : Int32))), .val (.int ((XT.ushr p1 (3 : Int32)) &&& (7 : Int32))), .val (.ref o1), .val (.ref o6), .unset, .unset, .unset, .unset] [(.ref lit28)])) _
            refine XS.astore X28.here hx rfl (hb hby at_210) rfl rfl (l' := #[.val (.int p1), .val (.int p2), .val (.long q3), .second, .val (.int (p1 &&& (7 : Int32))), .val (.int ((XT.ushr p1 (3 : Int32)) &&& (7 : Int32))), .val (.ref o1), .val (.ref o6), .val (.ref lit28), .unset, .unset, .unset]) rfl ?_
            show Steps p.tables e below (T28.setTop (mkF m 212 #[.val (.int p1), .val (.int p2), .val (.long q3), .second, .val (.int (p1 &&& (7 : Int32))), .val (.int ((XT.ushr p1 (3 : Int32)) &&& (7 : Int32))), .val (.ref o1), .val (.ref o6), .val (.ref lit28), .unset, .unset, .unset] [])) _
            refine XS.iconst X28.here hx rfl (hb hby at_212) ?_
            show Steps p.tables e below (T28.setTop (mkF m 213 #[.val (.int p1), .val (.int p2), .val (.long q3), .second, .val (.int (p1 &&& (7 : Int32))), .val (.int ((XT.ushr p1 (3 : Int32)) &&& (7 : Int32))), .val (.ref o1), .val (.ref o6), .val (.ref lit28), .unset, .unset, .unset] [(.int (0 : Int32))])) _
            refine XS.istore X28.here hx rfl (hb hby at_213) rfl (l' := #[.val (.int p1), .val (.int p2), .val (.long q3), .second, .val (.int (p1 &&& (7 : Int32))), .val (.int ((XT.ushr p1 (3 : Int32)) &&& (7 : Int32))), .val (.ref o1), .val (.ref o6), .val (.ref lit28), .val (.int (0 : Int32)), .unset, .unset]) rfl ?_
            show Steps p.tables e below (T28.setTop (mkF m 215 #[.val (.int p1), .val (.int p2), .val (.long q3), .second, .val (.int (p1 &&& (7 : Int32))), .val (.int ((XT.ushr p1 (3 : Int32)) &&& (7 : Int32))), .val (.ref o1), .val (.ref o6), .val (.ref lit28), .val (.int (0 : Int32)), .unset, .unset] [])) _
            refine XS.goto X28.here hx rfl (pc0 := 215) (pc' := 357) rfl (hb hby at_215) (by decide) (by decide) ?_
            exact k
          · skip
            by_cases hc13_4 : (p1 &&& (7 : Int32)) = (4 : Int32)
            · have h29 : ¬ ((p1 &&& (7 : Int32)) = (0 : Int32)) := hc13_0
              have h30 : ¬ ((p1 &&& (7 : Int32)) = (1 : Int32)) := hc13_1
              have h31 : ¬ ((p1 &&& (7 : Int32)) = (2 : Int32)) := hc13_2
              have h32 : ¬ ((p1 &&& (7 : Int32)) = (3 : Int32)) := hc13_3
              have h33 : (p1 &&& (7 : Int32)) = (4 : Int32) := hc13_4
              obtain ⟨lit34, T34, h34, kn34, b34, kb34, X34, e34, E34, hS34, hk34, hZ, hown, Ex34, Fc34, Fv34, V34, -, -, CH34, -, -, st34⟩ := ldcCH X12 hx hZ hown (hw _ (List.mem_of_getElem? (i := 22) rfl)) (own_wS hw) e12 hS0 hk14 (own_EW hw) (List.mem_of_getElem? (i := 7) rfl) CR14.1 (vs := [.int (49 : Int32), .int (56 : Int32), .int (49 : Int32), .int (57 : Int32), .int (48 : Int32)]) (z := (5 : Int32)) ⟨by decide, rfl⟩ (by decide) rfl (g := (mkF m 224 #[.val (.int p1), .val (.int p2), .val (.long q3), .second, .val (.int (p1 &&& (7 : Int32))), .val (.int ((XT.ushr p1 (3 : Int32)) &&& (7 : Int32))), .val (.ref o1), .val (.ref o6), .unset, .unset, .unset, .unset] [])) rfl (hb hby at_224) (n := 20) (by decide) (by decide) (by decide) (by decide)
              have u34_0 := u12_0.ext E34
              have u34_1 := V12.ext E34
              have Z34 : n0 ≤ h34.size := Nat.le_trans Z12 E34.1
              have K34 := K12.ext E34
              have OL34 := OL12.ext E34
              have CR34 := CR14.trans CH34
              have T_34 : own_Str Z h34 lit34 ([49, 56, 49, 57, 48] : List Int32) := own_Str.of Ex34 Fv34 Fc34 V34 rfl rfl (by decide) (by decide)
              rw [show (f0_c13 p1 p2 q3 cz) = ([49, 56, 49, 57, 48] : List Int32) from by simp only [f0_c13, if_neg hc13_0, if_neg hc13_1, if_neg hc13_2, if_neg hc13_3, if_pos hc13_4], show (f0_o13 p1 p2 q3 cz) = (0 : Int32) from by simp only [f0_o13, if_neg hc13_0, if_neg hc13_1, if_neg hc13_2, if_neg hc13_3, if_pos hc13_4]]
              refine ⟨T34, T34.vm, _, h34, lit34, _, X34.more (by decide) (by decide), e34, E34, hS34, hk34, hZ, hown, N12, CR34, T_34, fun t k => ?_⟩
              show Steps p.tables e below (T12.setTop (mkF m 155 #[.val (.int p1), .val (.int p2), .val (.long q3), .second, .val (.int (p1 &&& (7 : Int32))), .val (.int ((XT.ushr p1 (3 : Int32)) &&& (7 : Int32))), .val (.ref o1), .val (.ref o6), .unset, .unset, .unset, .unset] [])) _
              refine XS.iload X12.here hx rfl (hb hby at_155) rfl ?_
              show Steps p.tables e below (T12.setTop (mkF m 157 #[.val (.int p1), .val (.int p2), .val (.long q3), .second, .val (.int (p1 &&& (7 : Int32))), .val (.int ((XT.ushr p1 (3 : Int32)) &&& (7 : Int32))), .val (.ref o1), .val (.ref o6), .unset, .unset, .unset, .unset] [(.int (p1 &&& (7 : Int32)))])) _
              refine XS.ifYes X12.here hx rfl (pc0 := 157) (pc' := 170) rfl (hb hby at_157) rfl ((if0 _ _).trans (feq h29).2) (by decide) (by decide) ?_
              show Steps p.tables e below (T12.setTop (mkF m 170 #[.val (.int p1), .val (.int p2), .val (.long q3), .second, .val (.int (p1 &&& (7 : Int32))), .val (.int ((XT.ushr p1 (3 : Int32)) &&& (7 : Int32))), .val (.ref o1), .val (.ref o6), .unset, .unset, .unset, .unset] [])) _
              refine XS.iload X12.here hx rfl (hb hby at_170) rfl ?_
              show Steps p.tables e below (T12.setTop (mkF m 172 #[.val (.int p1), .val (.int p2), .val (.long q3), .second, .val (.int (p1 &&& (7 : Int32))), .val (.int ((XT.ushr p1 (3 : Int32)) &&& (7 : Int32))), .val (.ref o1), .val (.ref o6), .unset, .unset, .unset, .unset] [(.int (p1 &&& (7 : Int32)))])) _
              refine XS.iconst X12.here hx rfl (hb hby at_172) ?_
              show Steps p.tables e below (T12.setTop (mkF m 173 #[.val (.int p1), .val (.int p2), .val (.long q3), .second, .val (.int (p1 &&& (7 : Int32))), .val (.int ((XT.ushr p1 (3 : Int32)) &&& (7 : Int32))), .val (.ref o1), .val (.ref o6), .unset, .unset, .unset, .unset] [(.int (1 : Int32)), (.int (p1 &&& (7 : Int32)))])) _
              refine XS.icmpYes X12.here hx rfl (pc0 := 173) (pc' := 186) rfl (hb hby at_173) rfl (feq h30).2 (by decide) (by decide) ?_
              show Steps p.tables e below (T12.setTop (mkF m 186 #[.val (.int p1), .val (.int p2), .val (.long q3), .second, .val (.int (p1 &&& (7 : Int32))), .val (.int ((XT.ushr p1 (3 : Int32)) &&& (7 : Int32))), .val (.ref o1), .val (.ref o6), .unset, .unset, .unset, .unset] [])) _
              refine XS.iload X12.here hx rfl (hb hby at_186) rfl ?_
              show Steps p.tables e below (T12.setTop (mkF m 188 #[.val (.int p1), .val (.int p2), .val (.long q3), .second, .val (.int (p1 &&& (7 : Int32))), .val (.int ((XT.ushr p1 (3 : Int32)) &&& (7 : Int32))), .val (.ref o1), .val (.ref o6), .unset, .unset, .unset, .unset] [(.int (p1 &&& (7 : Int32)))])) _
              refine XS.iconst X12.here hx rfl (hb hby at_188) ?_
              show Steps p.tables e below (T12.setTop (mkF m 189 #[.val (.int p1), .val (.int p2), .val (.long q3), .second, .val (.int (p1 &&& (7 : Int32))), .val (.int ((XT.ushr p1 (3 : Int32)) &&& (7 : Int32))), .val (.ref o1), .val (.ref o6), .unset, .unset, .unset, .unset] [(.int (2 : Int32)), (.int (p1 &&& (7 : Int32)))])) _
              refine XS.icmpYes X12.here hx rfl (pc0 := 189) (pc' := 202) rfl (hb hby at_189) rfl (feq h31).2 (by decide) (by decide) ?_
              show Steps p.tables e below (T12.setTop (mkF m 202 #[.val (.int p1), .val (.int p2), .val (.long q3), .second, .val (.int (p1 &&& (7 : Int32))), .val (.int ((XT.ushr p1 (3 : Int32)) &&& (7 : Int32))), .val (.ref o1), .val (.ref o6), .unset, .unset, .unset, .unset] [])) _
              refine XS.iload X12.here hx rfl (hb hby at_202) rfl ?_
              show Steps p.tables e below (T12.setTop (mkF m 204 #[.val (.int p1), .val (.int p2), .val (.long q3), .second, .val (.int (p1 &&& (7 : Int32))), .val (.int ((XT.ushr p1 (3 : Int32)) &&& (7 : Int32))), .val (.ref o1), .val (.ref o6), .unset, .unset, .unset, .unset] [(.int (p1 &&& (7 : Int32)))])) _
              refine XS.iconst X12.here hx rfl (hb hby at_204) ?_
              show Steps p.tables e below (T12.setTop (mkF m 205 #[.val (.int p1), .val (.int p2), .val (.long q3), .second, .val (.int (p1 &&& (7 : Int32))), .val (.int ((XT.ushr p1 (3 : Int32)) &&& (7 : Int32))), .val (.ref o1), .val (.ref o6), .unset, .unset, .unset, .unset] [(.int (3 : Int32)), (.int (p1 &&& (7 : Int32)))])) _
              refine XS.icmpYes X12.here hx rfl (pc0 := 205) (pc' := 218) rfl (hb hby at_205) rfl (feq h32).2 (by decide) (by decide) ?_
              show Steps p.tables e below (T12.setTop (mkF m 218 #[.val (.int p1), .val (.int p2), .val (.long q3), .second, .val (.int (p1 &&& (7 : Int32))), .val (.int ((XT.ushr p1 (3 : Int32)) &&& (7 : Int32))), .val (.ref o1), .val (.ref o6), .unset, .unset, .unset, .unset] [])) _
              refine XS.iload X12.here hx rfl (hb hby at_218) rfl ?_
              show Steps p.tables e below (T12.setTop (mkF m 220 #[.val (.int p1), .val (.int p2), .val (.long q3), .second, .val (.int (p1 &&& (7 : Int32))), .val (.int ((XT.ushr p1 (3 : Int32)) &&& (7 : Int32))), .val (.ref o1), .val (.ref o6), .unset, .unset, .unset, .unset] [(.int (p1 &&& (7 : Int32)))])) _
              refine XS.iconst X12.here hx rfl (hb hby at_220) ?_
              show Steps p.tables e below (T12.setTop (mkF m 221 #[.val (.int p1), .val (.int p2), .val (.long q3), .second, .val (.int (p1 &&& (7 : Int32))), .val (.int ((XT.ushr p1 (3 : Int32)) &&& (7 : Int32))), .val (.ref o1), .val (.ref o6), .unset, .unset, .unset, .unset] [(.int (4 : Int32)), (.int (p1 &&& (7 : Int32)))])) _
              refine XS.icmpNo X12.here hx rfl (hb hby at_221) rfl (teq h33).2 ?_
              show Steps p.tables e below (T12.setTop (mkF m 224 #[.val (.int p1), .val (.int p2), .val (.long q3), .second, .val (.int (p1 &&& (7 : Int32))), .val (.int ((XT.ushr p1 (3 : Int32)) &&& (7 : Int32))), .val (.ref o1), .val (.ref o6), .unset, .unset, .unset, .unset] [])) _
              refine st34 _ ?_
              show Steps p.tables e below (T34.setTop (mkF m 226 #[.val (.int p1), .val (.int p2), .val (.long q3), .second, .val (.int (p1 &&& (7 : Int32))), .val (.int ((XT.ushr p1 (3 : Int32)) &&& (7 : Int32))), .val (.ref o1), .val (.ref o6), .unset, .unset, .unset, .unset] [(.ref lit34)])) _
              refine XS.astore X34.here hx rfl (hb hby at_226) rfl rfl (l' := #[.val (.int p1), .val (.int p2), .val (.long q3), .second, .val (.int (p1 &&& (7 : Int32))), .val (.int ((XT.ushr p1 (3 : Int32)) &&& (7 : Int32))), .val (.ref o1), .val (.ref o6), .val (.ref lit34), .unset, .unset, .unset]) rfl ?_
              show Steps p.tables e below (T34.setTop (mkF m 228 #[.val (.int p1), .val (.int p2), .val (.long q3), .second, .val (.int (p1 &&& (7 : Int32))), .val (.int ((XT.ushr p1 (3 : Int32)) &&& (7 : Int32))), .val (.ref o1), .val (.ref o6), .val (.ref lit34), .unset, .unset, .unset] [])) _
              refine XS.iconst X34.here hx rfl (hb hby at_228) ?_
              show Steps p.tables e below (T34.setTop (mkF m 229 #[.val (.int p1), .val (.int p2), .val (.long q3), .second, .val (.int (p1 &&& (7 : Int32))), .val (.int ((XT.ushr p1 (3 : Int32)) &&& (7 : Int32))), .val (.ref o1), .val (.ref o6), .val (.ref lit34), .unset, .unset, .unset] [(.int (0 : Int32))])) _
              refine XS.istore X34.here hx rfl (hb hby at_229) rfl (l' := #[.val (.int p1), .val (.int p2), .val (.long q3), .second, .val (.int (p1 &&& (7 : Int32))), .val (.int ((XT.ushr p1 (3 : Int32)) &&& (7 : Int32))), .val (.ref o1), .val (.ref o6), .val (.ref lit34), .val (.int (0 : Int32)), .unset, .unset]) rfl ?_
              show Steps p.tables e below (T34.setTop (mkF m 231 #[.val (.int p1), .val (.int p2), .val (.long q3), .second, .val (.int (p1 &&& (7 : Int32))), .val (.int ((XT.ushr p1 (3 : Int32)) &&& (7 : Int32))), .val (.ref o1), .val (.ref o6), .val (.ref lit34), .val (.int (0 : Int32)), .unset, .unset] [])) _
              refine XS.goto X34.here hx rfl (pc0 := 231) (pc' := 357) rfl (hb hby at_231) (by decide) (by decide) ?_
              exact k
            · skip
              by_cases hc13_5 : (p1 &&& (7 : Int32)) = (5 : Int32)
              · have h35 : ¬ ((p1 &&& (7 : Int32)) = (0 : Int32)) := hc13_0
                have h36 : ¬ ((p1 &&& (7 : Int32)) = (1 : Int32)) := hc13_1
                have h37 : ¬ ((p1 &&& (7 : Int32)) = (2 : Int32)) := hc13_2
                have h38 : ¬ ((p1 &&& (7 : Int32)) = (3 : Int32)) := hc13_3
                have h39 : ¬ ((p1 &&& (7 : Int32)) = (4 : Int32)) := hc13_4
                have h40 : (p1 &&& (7 : Int32)) = (5 : Int32) := hc13_5
                obtain ⟨lit41, T41, h41, kn41, b41, kb41, X41, e41, E41, hS41, hk41, hZ, hown, Ex41, Fc41, Fv41, V41, -, -, CH41, -, -, st41⟩ := ldcCH X12 hx hZ hown (hw _ (List.mem_of_getElem? (i := 59) rfl)) (own_wS hw) e12 hS0 hk14 (own_EW hw) (List.mem_of_getElem? (i := 8) rfl) CR14.1 (vs := [.int (52 : Int32), .int (51 : Int32), .int (51 : Int32)]) (z := (3 : Int32)) ⟨by decide, rfl⟩ (by decide) rfl (g := (mkF m 240 #[.val (.int p1), .val (.int p2), .val (.long q3), .second, .val (.int (p1 &&& (7 : Int32))), .val (.int ((XT.ushr p1 (3 : Int32)) &&& (7 : Int32))), .val (.ref o1), .val (.ref o6), .unset, .unset, .unset, .unset] [])) rfl (hb hby at_240) (n := 12) (by decide) (by decide) (by decide) (by decide)
                have u41_0 := u12_0.ext E41
                have u41_1 := V12.ext E41
                have Z41 : n0 ≤ h41.size := Nat.le_trans Z12 E41.1
                have K41 := K12.ext E41
                have OL41 := OL12.ext E41
                have CR41 := CR14.trans CH41
                have T_41 : own_Str Z h41 lit41 ([52, 51, 51] : List Int32) := own_Str.of Ex41 Fv41 Fc41 V41 rfl rfl (by decide) (by decide)
                rw [show (f0_c13 p1 p2 q3 cz) = ([52, 51, 51] : List Int32) from by simp only [f0_c13, if_neg hc13_0, if_neg hc13_1, if_neg hc13_2, if_neg hc13_3, if_neg hc13_4, if_pos hc13_5], show (f0_o13 p1 p2 q3 cz) = (0 : Int32) from by simp only [f0_o13, if_neg hc13_0, if_neg hc13_1, if_neg hc13_2, if_neg hc13_3, if_neg hc13_4, if_pos hc13_5]]
                refine ⟨T41, T41.vm, _, h41, lit41, _, X41.more (by decide) (by decide), e41, E41, hS41, hk41, hZ, hown, N12, CR41, T_41, fun t k => ?_⟩
                show Steps p.tables e below (T12.setTop (mkF m 155 #[.val (.int p1), .val (.int p2), .val (.long q3), .second, .val (.int (p1 &&& (7 : Int32))), .val (.int ((XT.ushr p1 (3 : Int32)) &&& (7 : Int32))), .val (.ref o1), .val (.ref o6), .unset, .unset, .unset, .unset] [])) _
                refine XS.iload X12.here hx rfl (hb hby at_155) rfl ?_
                show Steps p.tables e below (T12.setTop (mkF m 157 #[.val (.int p1), .val (.int p2), .val (.long q3), .second, .val (.int (p1 &&& (7 : Int32))), .val (.int ((XT.ushr p1 (3 : Int32)) &&& (7 : Int32))), .val (.ref o1), .val (.ref o6), .unset, .unset, .unset, .unset] [(.int (p1 &&& (7 : Int32)))])) _
                refine XS.ifYes X12.here hx rfl (pc0 := 157) (pc' := 170) rfl (hb hby at_157) rfl ((if0 _ _).trans (feq h35).2) (by decide) (by decide) ?_
                show Steps p.tables e below (T12.setTop (mkF m 170 #[.val (.int p1), .val (.int p2), .val (.long q3), .second, .val (.int (p1 &&& (7 : Int32))), .val (.int ((XT.ushr p1 (3 : Int32)) &&& (7 : Int32))), .val (.ref o1), .val (.ref o6), .unset, .unset, .unset, .unset] [])) _
                refine XS.iload X12.here hx rfl (hb hby at_170) rfl ?_
                show Steps p.tables e below (T12.setTop (mkF m 172 #[.val (.int p1), .val (.int p2), .val (.long q3), .second, .val (.int (p1 &&& (7 : Int32))), .val (.int ((XT.ushr p1 (3 : Int32)) &&& (7 : Int32))), .val (.ref o1), .val (.ref o6), .unset, .unset, .unset, .unset] [(.int (p1 &&& (7 : Int32)))])) _
                refine XS.iconst X12.here hx rfl (hb hby at_172) ?_
                show Steps p.tables e below (T12.setTop (mkF m 173 #[.val (.int p1), .val (.int p2), .val (.long q3), .second, .val (.int (p1 &&& (7 : Int32))), .val (.int ((XT.ushr p1 (3 : Int32)) &&& (7 : Int32))), .val (.ref o1), .val (.ref o6), .unset, .unset, .unset, .unset] [(.int (1 : Int32)), (.int (p1 &&& (7 : Int32)))])) _
                refine XS.icmpYes X12.here hx rfl (pc0 := 173) (pc' := 186) rfl (hb hby at_173) rfl (feq h36).2 (by decide) (by decide) ?_
                show Steps p.tables e below (T12.setTop (mkF m 186 #[.val (.int p1), .val (.int p2), .val (.long q3), .second, .val (.int (p1 &&& (7 : Int32))), .val (.int ((XT.ushr p1 (3 : Int32)) &&& (7 : Int32))), .val (.ref o1), .val (.ref o6), .unset, .unset, .unset, .unset] [])) _
                refine XS.iload X12.here hx rfl (hb hby at_186) rfl ?_
                show Steps p.tables e below (T12.setTop (mkF m 188 #[.val (.int p1), .val (.int p2), .val (.long q3), .second, .val (.int (p1 &&& (7 : Int32))), .val (.int ((XT.ushr p1 (3 : Int32)) &&& (7 : Int32))), .val (.ref o1), .val (.ref o6), .unset, .unset, .unset, .unset] [(.int (p1 &&& (7 : Int32)))])) _
                refine XS.iconst X12.here hx rfl (hb hby at_188) ?_
                show Steps p.tables e below (T12.setTop (mkF m 189 #[.val (.int p1), .val (.int p2), .val (.long q3), .second, .val (.int (p1 &&& (7 : Int32))), .val (.int ((XT.ushr p1 (3 : Int32)) &&& (7 : Int32))), .val (.ref o1), .val (.ref o6), .unset, .unset, .unset, .unset] [(.int (2 : Int32)), (.int (p1 &&& (7 : Int32)))])) _
                refine XS.icmpYes X12.here hx rfl (pc0 := 189) (pc' := 202) rfl (hb hby at_189) rfl (feq h37).2 (by decide) (by decide) ?_
                show Steps p.tables e below (T12.setTop (mkF m 202 #[.val (.int p1), .val (.int p2), .val (.long q3), .second, .val (.int (p1 &&& (7 : Int32))), .val (.int ((XT.ushr p1 (3 : Int32)) &&& (7 : Int32))), .val (.ref o1), .val (.ref o6), .unset, .unset, .unset, .unset] [])) _
                refine XS.iload X12.here hx rfl (hb hby at_202) rfl ?_
                show Steps p.tables e below (T12.setTop (mkF m 204 #[.val (.int p1), .val (.int p2), .val (.long q3), .second, .val (.int (p1 &&& (7 : Int32))), .val (.int ((XT.ushr p1 (3 : Int32)) &&& (7 : Int32))), .val (.ref o1), .val (.ref o6), .unset, .unset, .unset, .unset] [(.int (p1 &&& (7 : Int32)))])) _
                refine XS.iconst X12.here hx rfl (hb hby at_204) ?_
                show Steps p.tables e below (T12.setTop (mkF m 205 #[.val (.int p1), .val (.int p2), .val (.long q3), .second, .val (.int (p1 &&& (7 : Int32))), .val (.int ((XT.ushr p1 (3 : Int32)) &&& (7 : Int32))), .val (.ref o1), .val (.ref o6), .unset, .unset, .unset, .unset] [(.int (3 : Int32)), (.int (p1 &&& (7 : Int32)))])) _
                refine XS.icmpYes X12.here hx rfl (pc0 := 205) (pc' := 218) rfl (hb hby at_205) rfl (feq h38).2 (by decide) (by decide) ?_
                show Steps p.tables e below (T12.setTop (mkF m 218 #[.val (.int p1), .val (.int p2), .val (.long q3), .second, .val (.int (p1 &&& (7 : Int32))), .val (.int ((XT.ushr p1 (3 : Int32)) &&& (7 : Int32))), .val (.ref o1), .val (.ref o6), .unset, .unset, .unset, .unset] [])) _
                refine XS.iload X12.here hx rfl (hb hby at_218) rfl ?_
                show Steps p.tables e below (T12.setTop (mkF m 220 #[.val (.int p1), .val (.int p2), .val (.long q3), .second, .val (.int (p1 &&& (7 : Int32))), .val (.int ((XT.ushr p1 (3 : Int32)) &&& (7 : Int32))), .val (.ref o1), .val (.ref o6), .unset, .unset, .unset, .unset] [(.int (p1 &&& (7 : Int32)))])) _
                refine XS.iconst X12.here hx rfl (hb hby at_220) ?_
                show Steps p.tables e below (T12.setTop (mkF m 221 #[.val (.int p1), .val (.int p2), .val (.long q3), .second, .val (.int (p1 &&& (7 : Int32))), .val (.int ((XT.ushr p1 (3 : Int32)) &&& (7 : Int32))), .val (.ref o1), .val (.ref o6), .unset, .unset, .unset, .unset] [(.int (4 : Int32)), (.int (p1 &&& (7 : Int32)))])) _
                refine XS.icmpYes X12.here hx rfl (pc0 := 221) (pc' := 234) rfl (hb hby at_221) rfl (feq h39).2 (by decide) (by decide) ?_
                show Steps p.tables e below (T12.setTop (mkF m 234 #[.val (.int p1), .val (.int p2), .val (.long q3), .second, .val (.int (p1 &&& (7 : Int32))), .val (.int ((XT.ushr p1 (3 : Int32)) &&& (7 : Int32))), .val (.ref o1), .val (.ref o6), .unset, .unset, .unset, .unset] [])) _
                refine XS.iload X12.here hx rfl (hb hby at_234) rfl ?_
                show Steps p.tables e below (T12.setTop (mkF m 236 #[.val (.int p1), .val (.int p2), .val (.long q3), .second, .val (.int (p1 &&& (7 : Int32))), .val (.int ((XT.ushr p1 (3 : Int32)) &&& (7 : Int32))), .val (.ref o1), .val (.ref o6), .unset, .unset, .unset, .unset] [(.int (p1 &&& (7 : Int32)))])) _
                refine XS.iconst X12.here hx rfl (hb hby at_236) ?_
                show Steps p.tables e below (T12.setTop (mkF m 237 #[.val (.int p1), .val (.int p2), .val (.long q3), .second, .val (.int (p1 &&& (7 : Int32))), .val (.int ((XT.ushr p1 (3 : Int32)) &&& (7 : Int32))), .val (.ref o1), .val (.ref o6), .unset, .unset, .unset, .unset] [(.int (5 : Int32)), (.int (p1 &&& (7 : Int32)))])) _
                refine XS.icmpNo X12.here hx rfl (hb hby at_237) rfl (teq h40).2 ?_
                show Steps p.tables e below (T12.setTop (mkF m 240 #[.val (.int p1), .val (.int p2), .val (.long q3), .second, .val (.int (p1 &&& (7 : Int32))), .val (.int ((XT.ushr p1 (3 : Int32)) &&& (7 : Int32))), .val (.ref o1), .val (.ref o6), .unset, .unset, .unset, .unset] [])) _
                refine st41 _ ?_
                show Steps p.tables e below (T41.setTop (mkF m 242 #[.val (.int p1), .val (.int p2), .val (.long q3), .second, .val (.int (p1 &&& (7 : Int32))), .val (.int ((XT.ushr p1 (3 : Int32)) &&& (7 : Int32))), .val (.ref o1), .val (.ref o6), .unset, .unset, .unset, .unset] [(.ref lit41)])) _
                refine XS.astore X41.here hx rfl (hb hby at_242) rfl rfl (l' := #[.val (.int p1), .val (.int p2), .val (.long q3), .second, .val (.int (p1 &&& (7 : Int32))), .val (.int ((XT.ushr p1 (3 : Int32)) &&& (7 : Int32))), .val (.ref o1), .val (.ref o6), .val (.ref lit41), .unset, .unset, .unset]) rfl ?_
                show Steps p.tables e below (T41.setTop (mkF m 244 #[.val (.int p1), .val (.int p2), .val (.long q3), .second, .val (.int (p1 &&& (7 : Int32))), .val (.int ((XT.ushr p1 (3 : Int32)) &&& (7 : Int32))), .val (.ref o1), .val (.ref o6), .val (.ref lit41), .unset, .unset, .unset] [])) _
                refine XS.iconst X41.here hx rfl (hb hby at_244) ?_
                show Steps p.tables e below (T41.setTop (mkF m 245 #[.val (.int p1), .val (.int p2), .val (.long q3), .second, .val (.int (p1 &&& (7 : Int32))), .val (.int ((XT.ushr p1 (3 : Int32)) &&& (7 : Int32))), .val (.ref o1), .val (.ref o6), .val (.ref lit41), .unset, .unset, .unset] [(.int (0 : Int32))])) _
                refine XS.istore X41.here hx rfl (hb hby at_245) rfl (l' := #[.val (.int p1), .val (.int p2), .val (.long q3), .second, .val (.int (p1 &&& (7 : Int32))), .val (.int ((XT.ushr p1 (3 : Int32)) &&& (7 : Int32))), .val (.ref o1), .val (.ref o6), .val (.ref lit41), .val (.int (0 : Int32)), .unset, .unset]) rfl ?_
                show Steps p.tables e below (T41.setTop (mkF m 247 #[.val (.int p1), .val (.int p2), .val (.long q3), .second, .val (.int (p1 &&& (7 : Int32))), .val (.int ((XT.ushr p1 (3 : Int32)) &&& (7 : Int32))), .val (.ref o1), .val (.ref o6), .val (.ref lit41), .val (.int (0 : Int32)), .unset, .unset] [])) _
                refine XS.goto X41.here hx rfl (pc0 := 247) (pc' := 357) rfl (hb hby at_247) (by decide) (by decide) ?_
                exact k
              · skip
                by_cases hc13_6 : (p1 &&& (7 : Int32)) = (6 : Int32)
                · have h42 : ¬ ((p1 &&& (7 : Int32)) = (0 : Int32)) := hc13_0
                  have h43 : ¬ ((p1 &&& (7 : Int32)) = (1 : Int32)) := hc13_1
                  have h44 : ¬ ((p1 &&& (7 : Int32)) = (2 : Int32)) := hc13_2
                  have h45 : ¬ ((p1 &&& (7 : Int32)) = (3 : Int32)) := hc13_3
                  have h46 : ¬ ((p1 &&& (7 : Int32)) = (4 : Int32)) := hc13_4
                  have h47 : ¬ ((p1 &&& (7 : Int32)) = (5 : Int32)) := hc13_5
                  have h48 : (p1 &&& (7 : Int32)) = (6 : Int32) := hc13_6
                  obtain ⟨lit49, T49, h49, kn49, b49, kb49, X49, e49, E49, hS49, hk49, hZ, hown, Ex49, Fc49, Fv49, V49, -, -, CH49, -, -, st49⟩ := ldcCH X12 hx hZ hown (hw _ (List.mem_of_getElem? (i := 47) rfl)) (own_wS hw) e12 hS0 hk14 (own_EW hw) (List.mem_of_getElem? (i := 9) rfl) CR14.1 (vs := []) (z := (0 : Int32)) ⟨by decide, rfl⟩ (by decide) rfl (g := (mkF m 257 #[.val (.int p1), .val (.int p2), .val (.long q3), .second, .val (.int (p1 &&& (7 : Int32))), .val (.int ((XT.ushr p1 (3 : Int32)) &&& (7 : Int32))), .val (.ref o1), .val (.ref o6), .unset, .unset, .unset, .unset] [])) rfl (hb hby at_257) (n := 0) (by decide) (by decide) (by decide) (by decide)
                  have u49_0 := u12_0.ext E49
                  have u49_1 := V12.ext E49
                  have Z49 : n0 ≤ h49.size := Nat.le_trans Z12 E49.1
                  have K49 := K12.ext E49
                  have OL49 := OL12.ext E49
                  have CR49 := CR14.trans CH49
                  have T_49 : own_Str Z h49 lit49 ([] : List Int32) := own_Str.of Ex49 Fv49 Fc49 V49 rfl rfl (by decide) (by decide)
                  rw [show (f0_c13 p1 p2 q3 cz) = ([] : List Int32) from by simp only [f0_c13, if_neg hc13_0, if_neg hc13_1, if_neg hc13_2, if_neg hc13_3, if_neg hc13_4, if_neg hc13_5, if_pos hc13_6], show (f0_o13 p1 p2 q3 cz) = (0 : Int32) from by simp only [f0_o13, if_neg hc13_0, if_neg hc13_1, if_neg hc13_2, if_neg hc13_3, if_neg hc13_4, if_neg hc13_5, if_pos hc13_6]]
                  refine ⟨T49, T49.vm, _, h49, lit49, _, X49.more (by decide) (by decide), e49, E49, hS49, hk49, hZ, hown, N12, CR49, T_49, fun t k => ?_⟩
                  show Steps p.tables e below (T12.setTop (mkF m 155 #[.val (.int p1), .val (.int p2), .val (.long q3), .second, .val (.int (p1 &&& (7 : Int32))), .val (.int ((XT.ushr p1 (3 : Int32)) &&& (7 : Int32))), .val (.ref o1), .val (.ref o6), .unset, .unset, .unset, .unset] [])) _
                  refine XS.iload X12.here hx rfl (hb hby at_155) rfl ?_
                  show Steps p.tables e below (T12.setTop (mkF m 157 #[.val (.int p1), .val (.int p2), .val (.long q3), .second, .val (.int (p1 &&& (7 : Int32))), .val (.int ((XT.ushr p1 (3 : Int32)) &&& (7 : Int32))), .val (.ref o1), .val (.ref o6), .unset, .unset, .unset, .unset] [(.int (p1 &&& (7 : Int32)))])) _
                  refine XS.ifYes X12.here hx rfl (pc0 := 157) (pc' := 170) rfl (hb hby at_157) rfl ((if0 _ _).trans (feq h42).2) (by decide) (by decide) ?_
                  show Steps p.tables e below (T12.setTop (mkF m 170 #[.val (.int p1), .val (.int p2), .val (.long q3), .second, .val (.int (p1 &&& (7 : Int32))), .val (.int ((XT.ushr p1 (3 : Int32)) &&& (7 : Int32))), .val (.ref o1), .val (.ref o6), .unset, .unset, .unset, .unset] [])) _
                  refine XS.iload X12.here hx rfl (hb hby at_170) rfl ?_
                  show Steps p.tables e below (T12.setTop (mkF m 172 #[.val (.int p1), .val (.int p2), .val (.long q3), .second, .val (.int (p1 &&& (7 : Int32))), .val (.int ((XT.ushr p1 (3 : Int32)) &&& (7 : Int32))), .val (.ref o1), .val (.ref o6), .unset, .unset, .unset, .unset] [(.int (p1 &&& (7 : Int32)))])) _
                  refine XS.iconst X12.here hx rfl (hb hby at_172) ?_
                  show Steps p.tables e below (T12.setTop (mkF m 173 #[.val (.int p1), .val (.int p2), .val (.long q3), .second, .val (.int (p1 &&& (7 : Int32))), .val (.int ((XT.ushr p1 (3 : Int32)) &&& (7 : Int32))), .val (.ref o1), .val (.ref o6), .unset, .unset, .unset, .unset] [(.int (1 : Int32)), (.int (p1 &&& (7 : Int32)))])) _
                  refine XS.icmpYes X12.here hx rfl (pc0 := 173) (pc' := 186) rfl (hb hby at_173) rfl (feq h43).2 (by decide) (by decide) ?_
                  show Steps p.tables e below (T12.setTop (mkF m 186 #[.val (.int p1), .val (.int p2), .val (.long q3), .second, .val (.int (p1 &&& (7 : Int32))), .val (.int ((XT.ushr p1 (3 : Int32)) &&& (7 : Int32))), .val (.ref o1), .val (.ref o6), .unset, .unset, .unset, .unset] [])) _
                  refine XS.iload X12.here hx rfl (hb hby at_186) rfl ?_
                  show Steps p.tables e below (T12.setTop (mkF m 188 #[.val (.int p1), .val (.int p2), .val (.long q3), .second, .val (.int (p1 &&& (7 : Int32))), .val (.int ((XT.ushr p1 (3 : Int32)) &&& (7 : Int32))), .val (.ref o1), .val (.ref o6), .unset, .unset, .unset, .unset] [(.int (p1 &&& (7 : Int32)))])) _
                  refine XS.iconst X12.here hx rfl (hb hby at_188) ?_
                  show Steps p.tables e below (T12.setTop (mkF m 189 #[.val (.int p1), .val (.int p2), .val (.long q3), .second, .val (.int (p1 &&& (7 : Int32))), .val (.int ((XT.ushr p1 (3 : Int32)) &&& (7 : Int32))), .val (.ref o1), .val (.ref o6), .unset, .unset, .unset, .unset] [(.int (2 : Int32)), (.int (p1 &&& (7 : Int32)))])) _
                  refine XS.icmpYes X12.here hx rfl (pc0 := 189) (pc' := 202) rfl (hb hby at_189) rfl (feq h44).2 (by decide) (by decide) ?_
                  show Steps p.tables e below (T12.setTop (mkF m 202 #[.val (.int p1), .val (.int p2), .val (.long q3), .second, .val (.int (p1 &&& (7 : Int32))), .val (.int ((XT.ushr p1 (3 : Int32)) &&& (7 : Int32))), .val (.ref o1), .val (.ref o6), .unset, .unset, .unset, .unset] [])) _
                  refine XS.iload X12.here hx rfl (hb hby at_202) rfl ?_
                  show Steps p.tables e below (T12.setTop (mkF m 204 #[.val (.int p1), .val (.int p2), .val (.long q3), .second, .val (.int (p1 &&& (7 : Int32))), .val (.int ((XT.ushr p1 (3 : Int32)) &&& (7 : Int32))), .val (.ref o1), .val (.ref o6), .unset, .unset, .unset, .unset] [(.int (p1 &&& (7 : Int32)))])) _
                  refine XS.iconst X12.here hx rfl (hb hby at_204) ?_
                  show Steps p.tables e below (T12.setTop (mkF m 205 #[.val (.int p1), .val (.int p2), .val (.long q3), .second, .val (.int (p1 &&& (7 : Int32))), .val (.int ((XT.ushr p1 (3 : Int32)) &&& (7 : Int32))), .val (.ref o1), .val (.ref o6), .unset, .unset, .unset, .unset] [(.int (3 : Int32)), (.int (p1 &&& (7 : Int32)))])) _
                  refine XS.icmpYes X12.here hx rfl (pc0 := 205) (pc' := 218) rfl (hb hby at_205) rfl (feq h45).2 (by decide) (by decide) ?_
                  show Steps p.tables e below (T12.setTop (mkF m 218 #[.val (.int p1), .val (.int p2), .val (.long q3), .second, .val (.int (p1 &&& (7 : Int32))), .val (.int ((XT.ushr p1 (3 : Int32)) &&& (7 : Int32))), .val (.ref o1), .val (.ref o6), .unset, .unset, .unset, .unset] [])) _
                  refine XS.iload X12.here hx rfl (hb hby at_218) rfl ?_
                  show Steps p.tables e below (T12.setTop (mkF m 220 #[.val (.int p1), .val (.int p2), .val (.long q3), .second, .val (.int (p1 &&& (7 : Int32))), .val (.int ((XT.ushr p1 (3 : Int32)) &&& (7 : Int32))), .val (.ref o1), .val (.ref o6), .unset, .unset, .unset, .unset] [(.int (p1 &&& (7 : Int32)))])) _
                  refine XS.iconst X12.here hx rfl (hb hby at_220) ?_
                  show Steps p.tables e below (T12.setTop (mkF m 221 #[.val (.int p1), .val (.int p2), .val (.long q3), .second, .val (.int (p1 &&& (7 : Int32))), .val (.int ((XT.ushr p1 (3 : Int32)) &&& (7 : Int32))), .val (.ref o1), .val (.ref o6), .unset, .unset, .unset, .unset] [(.int (4 : Int32)), (.int (p1 &&& (7 : Int32)))])) _
                  refine XS.icmpYes X12.here hx rfl (pc0 := 221) (pc' := 234) rfl (hb hby at_221) rfl (feq h46).2 (by decide) (by decide) ?_
                  show Steps p.tables e below (T12.setTop (mkF m 234 #[.val (.int p1), .val (.int p2), .val (.long q3), .second, .val (.int (p1 &&& (7 : Int32))), .val (.int ((XT.ushr p1 (3 : Int32)) &&& (7 : Int32))), .val (.ref o1), .val (.ref o6), .unset, .unset, .unset, .unset] [])) _
                  refine XS.iload X12.here hx rfl (hb hby at_234) rfl ?_
                  show Steps p.tables e below (T12.setTop (mkF m 236 #[.val (.int p1), .val (.int p2), .val (.long q3), .second, .val (.int (p1 &&& (7 : Int32))), .val (.int ((XT.ushr p1 (3 : Int32)) &&& (7 : Int32))), .val (.ref o1), .val (.ref o6), .unset, .unset, .unset, .unset] [(.int (p1 &&& (7 : Int32)))])) _
                  refine XS.iconst X12.here hx rfl (hb hby at_236) ?_
                  show Steps p.tables e below (T12.setTop (mkF m 237 #[.val (.int p1), .val (.int p2), .val (.long q3), .second, .val (.int (p1 &&& (7 : Int32))), .val (.int ((XT.ushr p1 (3 : Int32)) &&& (7 : Int32))), .val (.ref o1), .val (.ref o6), .unset, .unset, .unset, .unset] [(.int (5 : Int32)), (.int (p1 &&& (7 : Int32)))])) _
                  refine XS.icmpYes X12.here hx rfl (pc0 := 237) (pc' := 250) rfl (hb hby at_237) rfl (feq h47).2 (by decide) (by decide) ?_
                  show Steps p.tables e below (T12.setTop (mkF m 250 #[.val (.int p1), .val (.int p2), .val (.long q3), .second, .val (.int (p1 &&& (7 : Int32))), .val (.int ((XT.ushr p1 (3 : Int32)) &&& (7 : Int32))), .val (.ref o1), .val (.ref o6), .unset, .unset, .unset, .unset] [])) _
                  refine XS.iload X12.here hx rfl (hb hby at_250) rfl ?_
                  show Steps p.tables e below (T12.setTop (mkF m 252 #[.val (.int p1), .val (.int p2), .val (.long q3), .second, .val (.int (p1 &&& (7 : Int32))), .val (.int ((XT.ushr p1 (3 : Int32)) &&& (7 : Int32))), .val (.ref o1), .val (.ref o6), .unset, .unset, .unset, .unset] [(.int (p1 &&& (7 : Int32)))])) _
                  refine XS.bipush X12.here hx rfl (hb hby at_252) ?_
                  show Steps p.tables e below (T12.setTop (mkF m 254 #[.val (.int p1), .val (.int p2), .val (.long q3), .second, .val (.int (p1 &&& (7 : Int32))), .val (.int ((XT.ushr p1 (3 : Int32)) &&& (7 : Int32))), .val (.ref o1), .val (.ref o6), .unset, .unset, .unset, .unset] [(.int (6 : Int32)), (.int (p1 &&& (7 : Int32)))])) _
                  refine XS.icmpNo X12.here hx rfl (hb hby at_254) rfl (teq h48).2 ?_
                  show Steps p.tables e below (T12.setTop (mkF m 257 #[.val (.int p1), .val (.int p2), .val (.long q3), .second, .val (.int (p1 &&& (7 : Int32))), .val (.int ((XT.ushr p1 (3 : Int32)) &&& (7 : Int32))), .val (.ref o1), .val (.ref o6), .unset, .unset, .unset, .unset] [])) _
                  refine st49 _ ?_
                  show Steps p.tables e below (T49.setTop (mkF m 259 #[.val (.int p1), .val (.int p2), .val (.long q3), .second, .val (.int (p1 &&& (7 : Int32))), .val (.int ((XT.ushr p1 (3 : Int32)) &&& (7 : Int32))), .val (.ref o1), .val (.ref o6), .unset, .unset, .unset, .unset] [(.ref lit49)])) _
                  refine XS.astore X49.here hx rfl (hb hby at_259) rfl rfl (l' := #[.val (.int p1), .val (.int p2), .val (.long q3), .second, .val (.int (p1 &&& (7 : Int32))), .val (.int ((XT.ushr p1 (3 : Int32)) &&& (7 : Int32))), .val (.ref o1), .val (.ref o6), .val (.ref lit49), .unset, .unset, .unset]) rfl ?_
                  show Steps p.tables e below (T49.setTop (mkF m 261 #[.val (.int p1), .val (.int p2), .val (.long q3), .second, .val (.int (p1 &&& (7 : Int32))), .val (.int ((XT.ushr p1 (3 : Int32)) &&& (7 : Int32))), .val (.ref o1), .val (.ref o6), .val (.ref lit49), .unset, .unset, .unset] [])) _
                  refine XS.iconst X49.here hx rfl (hb hby at_261) ?_
                  show Steps p.tables e below (T49.setTop (mkF m 262 #[.val (.int p1), .val (.int p2), .val (.long q3), .second, .val (.int (p1 &&& (7 : Int32))), .val (.int ((XT.ushr p1 (3 : Int32)) &&& (7 : Int32))), .val (.ref o1), .val (.ref o6), .val (.ref lit49), .unset, .unset, .unset] [(.int (0 : Int32))])) _
                  refine XS.istore X49.here hx rfl (hb hby at_262) rfl (l' := #[.val (.int p1), .val (.int p2), .val (.long q3), .second, .val (.int (p1 &&& (7 : Int32))), .val (.int ((XT.ushr p1 (3 : Int32)) &&& (7 : Int32))), .val (.ref o1), .val (.ref o6), .val (.ref lit49), .val (.int (0 : Int32)), .unset, .unset]) rfl ?_
                  show Steps p.tables e below (T49.setTop (mkF m 264 #[.val (.int p1), .val (.int p2), .val (.long q3), .second, .val (.int (p1 &&& (7 : Int32))), .val (.int ((XT.ushr p1 (3 : Int32)) &&& (7 : Int32))), .val (.ref o1), .val (.ref o6), .val (.ref lit49), .val (.int (0 : Int32)), .unset, .unset] [])) _
                  refine XS.goto X49.here hx rfl (pc0 := 264) (pc' := 357) rfl (hb hby at_264) (by decide) (by decide) ?_
                  exact k
                · skip
                  have h50 : ¬ ((p1 &&& (7 : Int32)) = (0 : Int32)) := hc13_0
                  have h51 : ¬ ((p1 &&& (7 : Int32)) = (1 : Int32)) := hc13_1
                  have h52 : ¬ ((p1 &&& (7 : Int32)) = (2 : Int32)) := hc13_2
                  have h53 : ¬ ((p1 &&& (7 : Int32)) = (3 : Int32)) := hc13_3
                  have h54 : ¬ ((p1 &&& (7 : Int32)) = (4 : Int32)) := hc13_4
                  have h55 : ¬ ((p1 &&& (7 : Int32)) = (5 : Int32)) := hc13_5
                  have h56 : ¬ ((p1 &&& (7 : Int32)) = (6 : Int32)) := hc13_6
                  obtain ⟨T57, h57, X57, e57, E57, A57, D57, -, st57⟩ := newO X12 hx hZ hown (hw _ (List.mem_of_getElem? (i := 23) rfl)) (hw _ (List.mem_of_getElem? (i := 4) rfl)) (hw _ (List.mem_of_getElem? (i := 3) rfl)) e12 (g := (mkF m 267 #[.val (.int p1), .val (.int p2), .val (.long q3), .second, .val (.int (p1 &&& (7 : Int32))), .val (.int ((XT.ushr p1 (3 : Int32)) &&& (7 : Int32))), .val (.ref o1), .val (.ref o6), .unset, .unset, .unset, .unset] [])) rfl (hb hby at_267) (by decide) (by decide)
                  obtain ⟨o57, g57⟩ : ∃ z, z = h12.size := ⟨_, rfl⟩
                  rw [← g57] at A57 D57 st57
                  have ne57_1 : o1 ≠ o57 := Nat.ne_of_lt (Nat.lt_of_lt_of_le u12_0.lt (Nat.le_of_eq g57.symm))
                  have ne57_2 : o6 ≠ o57 := Nat.ne_of_lt (Nat.lt_of_lt_of_le V12.lt (Nat.le_of_eq g57.symm))
                  have u57_0 := u12_0.ext E57
                  have u57_1 := V12.ext E57
                  have ge57 : n0 ≤ o57 := Nat.le_trans Z12 (Nat.le_of_eq g57.symm)
                  have Z57 : n0 ≤ h57.size := Nat.le_trans Z12 E57.1
                  have sz57 : h0.size ≤ o57 := Nat.le_trans K12.1 (Nat.le_of_eq g57.symm)
                  have K57 := K12.ext E57
                  have OL57 := OL12.ext E57
                  have D57_6 : Fld Z h57 o57 "java/lang/String" "value" "[B" .null := D57 (Or.inr (hw _ (List.mem_of_getElem? (i := 6) rfl))) (ty := (.array .byte)) (by decide)
                  have D57_7 : Fld Z h57 o57 "java/lang/String" "coder" "B" (.int (0 : Int32)) := D57 (Or.inr (hw _ (List.mem_of_getElem? (i := 7) rfl))) (ty := .byte) (by decide)
                  have hp58 : ∀ c ∈ ([(f0_0 p1 p2 q3 cz), (f0_1 p1 p2 q3 cz).toUInt32.toUInt16.toUInt32.toInt32, (f0_2 p1 p2 q3 cz).toUInt32.toUInt16.toUInt32.toInt32, (f0_3 p1 p2 q3 cz).toUInt32.toUInt16.toUInt32.toInt32] : List Int32), ¬ c < 0 ∧ ¬ (255 : Int32) < c := by
                    intro c hc
                    simp only [List.mem_cons, List.not_mem_nil, or_false] at hc
                    rcases hc with rfl | rfl | rfl | rfl
                    · exact (by simp only [f0_0]; exact own_bI _)
                    · exact (by simp only [f0_1]; exact own_bI _)
                    · exact (by simp only [f0_2]; exact own_bI _)
                    · exact (by simp only [f0_3]; exact own_bI _)
                  obtain ⟨_, _, ⟨T58, L58, k58, n58⟩, -, X58, ⟨Lc58, hQ58, l58, y58, z58⟩, st58⟩ := X57.specialBack hx (y := (⟨"java/lang/String", "<init>", "([C)V"⟩ : MethodName)) rfl hown (mvT hZ (hw _ (List.mem_of_getElem? (i := 24) rfl))) (mvT hZ (hw _ (List.mem_of_getElem? (i := 25) rfl))) (mvT hZ (hw _ (List.mem_of_getElem? (i := 26) rfl))) (by decide) (StrChars.Road.backV (W := 1) hZ (own_wV hw) (kI := 4) (hw _ (List.mem_of_getElem? (i := 4) rfl)) (cs := ([(f0_0 p1 p2 q3 cz), (f0_1 p1 p2 q3 cz).toUInt32.toUInt16.toUInt32.toInt32, (f0_2 p1 p2 q3 cz).toUInt32.toUInt16.toUInt32.toInt32, (f0_3 p1 p2 q3 cz).toUInt32.toUInt16.toUInt32.toInt32] : List Int32)) (bs := (([(f0_0 p1 p2 q3 cz), (f0_1 p1 p2 q3 cz).toUInt32.toUInt16.toUInt32.toInt32, (f0_2 p1 p2 q3 cz).toUInt32.toUInt16.toUInt32.toInt32, (f0_3 p1 p2 q3 cz).toUInt32.toUInt16.toUInt32.toInt32] : List Int32)).map (fun c => c.toInt8.toInt32)) (n := 4) ge57 Z57 A57 D57_6 D57_7 u57_0 (Sta.ext OL57.2 hCS) hcz rfl rfl (by decide) (by decide) hp58 rfl (by decide) (by decide)) (g := (mkF m 273 #[.val (.int p1), .val (.int p2), .val (.long q3), .second, .val (.int (p1 &&& (7 : Int32))), .val (.int ((XT.ushr p1 (3 : Int32)) &&& (7 : Int32))), .val (.ref o1), .val (.ref o6), .unset, .unset, .unset, .unset] [(.ref o1), (.ref o57), (.ref o57)])) rfl (by rw [hml]; rfl) (Steps.refl _) (a := o57) (argsL := [(.ref o1)]) (rest := [(.ref o57)]) (lenOf pd_1 rfl) rfl (by show 2 * 0 + _ ≤ _; exact Nat.le_of_eq rfl) (hb hby at_273) (fun _ _ => ⟨rfl, e57, (by decide : 3 + 1 ≤ _), (by decide : 14 + 4 ≤ _)⟩)
                  dsimp only [Pt.U, Pt.locs, Pt.cells, Pt.slots] at X58 l58 y58 z58 st58 hQ58
                  subst l58 y58 z58
                  obtain ⟨rfl, N58q, Kc58, Ex58, Fc58, tb58, kb58, -, -, -, Fv58, Vb58⟩ := hQ58
                  have N58 := Fr.app N12 N58q
                  have u58_0 := u57_0.keep Kc58 (by simp only [List.mem_cons, List.not_mem_nil, or_false, not_or]; exact ne57_1)
                  have u58_1 := u57_1.keep Kc58 (by simp only [List.mem_cons, List.not_mem_nil, or_false, not_or]; exact ne57_2)
                  have u58_2 := A57.keep Kc58
                  have OL58 := OL57.keep Kc58 (fun x hx => by cases List.mem_singleton.mp hx; exact ge57)
                  have K58 := K57.trans Kc58 (fun x hx => by cases List.mem_singleton.mp hx; exact Or.inr sz57)
                  have Z58 : n0 ≤ T58.heap.size := Nat.le_trans Z57 Kc58.1
                  have EE58 : Ext h12 T58.heap := own_ext2 E57 Kc58 (Nat.le_of_eq g57.symm)
                  have T_58 : own_Str Z T58.heap o57 ([(f0_0 p1 p2 q3 cz), (f0_1 p1 p2 q3 cz).toUInt32.toUInt16.toUInt32.toInt32, (f0_2 p1 p2 q3 cz).toUInt32.toUInt16.toUInt32.toInt32, (f0_3 p1 p2 q3 cz).toUInt32.toUInt16.toUInt32.toInt32] : List Int32) := own_Str.of Ex58 Fv58 Fc58 Vb58 rfl rfl hp58 (by show 4 ≤ 4000; decide)
                  obtain ⟨cl59, Ar59, -, S59, M59, H59, -⟩ := id u58_0
                  have hin59 := inb_of (j := (0 : Int32)) S59 (by decide)
                  have hat59 := H59.at hin59 (v := (.int (f0_0 p1 p2 q3 cz))) (rfl)
                  have st118 : ∀ t, Steps p.tables e below (T58.setTop (mkF m 355 #[.val (.int p1), .val (.int p2), .val (.long q3), .second, .val (.int (p1 &&& (7 : Int32))), .val (.int ((XT.ushr p1 (3 : Int32)) &&& (7 : Int32))), .val (.ref o1), .val (.ref o6), .val (.ref o57), .unset, .unset, .unset] [(.int (f0_17 p1 p2 q3 cz))])) t → Steps p.tables e below (T58.setTop (mkF m 284 #[.val (.int p1), .val (.int p2), .val (.long q3), .second, .val (.int (p1 &&& (7 : Int32))), .val (.int ((XT.ushr p1 (3 : Int32)) &&& (7 : Int32))), .val (.ref o1), .val (.ref o6), .val (.ref o57), .unset, .unset, .unset] [(.int (49 : Int32)), (.int (f0_0 p1 p2 q3 cz))])) t := by
                    intro t k
                    by_cases h60 : (f0_0 p1 p2 q3 cz) = (49 : Int32)
                    · obtain ⟨cl61, Ar61, -, S61, M61, H61, -⟩ := id u58_0
                      have hin61 := inb_of (j := (1 : Int32)) S61 (by decide)
                      have hat61 := H61.at hin61 (v := (.int (f0_1 p1 p2 q3 cz).toUInt32.toUInt16.toUInt32.toInt32)) (rfl)
                      have st105 : ∀ t, Steps p.tables e below (T58.setTop (mkF m 355 #[.val (.int p1), .val (.int p2), .val (.long q3), .second, .val (.int (p1 &&& (7 : Int32))), .val (.int ((XT.ushr p1 (3 : Int32)) &&& (7 : Int32))), .val (.ref o1), .val (.ref o6), .val (.ref o57), .unset, .unset, .unset] [(.int (f0_16 p1 p2 q3 cz))])) t → Steps p.tables e below (T58.setTop (mkF m 293 #[.val (.int p1), .val (.int p2), .val (.long q3), .second, .val (.int (p1 &&& (7 : Int32))), .val (.int ((XT.ushr p1 (3 : Int32)) &&& (7 : Int32))), .val (.ref o1), .val (.ref o6), .val (.ref o57), .unset, .unset, .unset] [(.int (56 : Int32)), (.int (f0_1 p1 p2 q3 cz).toUInt32.toUInt16.toUInt32.toInt32)])) t := by
                        intro t k
                        by_cases h62 : (f0_1 p1 p2 q3 cz).toUInt32.toUInt16.toUInt32.toInt32 = (56 : Int32)
                        · obtain ⟨cl63, Ar63, -, S63, M63, H63, -⟩ := id u58_0
                          have hin63 := inb_of (j := (2 : Int32)) S63 (by decide)
                          have hat63 := H63.at hin63 (v := (.int (f0_2 p1 p2 q3 cz).toUInt32.toUInt16.toUInt32.toInt32)) (rfl)
                          have st92 : ∀ t, Steps p.tables e below (T58.setTop (mkF m 355 #[.val (.int p1), .val (.int p2), .val (.long q3), .second, .val (.int (p1 &&& (7 : Int32))), .val (.int ((XT.ushr p1 (3 : Int32)) &&& (7 : Int32))), .val (.ref o1), .val (.ref o6), .val (.ref o57), .unset, .unset, .unset] [(.int (f0_15 p1 p2 q3 cz))])) t → Steps p.tables e below (T58.setTop (mkF m 302 #[.val (.int p1), .val (.int p2), .val (.long q3), .second, .val (.int (p1 &&& (7 : Int32))), .val (.int ((XT.ushr p1 (3 : Int32)) &&& (7 : Int32))), .val (.ref o1), .val (.ref o6), .val (.ref o57), .unset, .unset, .unset] [(.int (49 : Int32)), (.int (f0_2 p1 p2 q3 cz).toUInt32.toUInt16.toUInt32.toInt32)])) t := by
                            intro t k
                            by_cases h64 : (f0_2 p1 p2 q3 cz).toUInt32.toUInt16.toUInt32.toInt32 = (49 : Int32)
                            · obtain ⟨cl65, Ar65, -, S65, M65, H65, -⟩ := id u58_0
                              have hin65 := inb_of (j := (3 : Int32)) S65 (by decide)
                              have hat65 := H65.at hin65 (v := (.int (f0_3 p1 p2 q3 cz).toUInt32.toUInt16.toUInt32.toInt32)) (rfl)
                              have st79 : ∀ t, Steps p.tables e below (T58.setTop (mkF m 355 #[.val (.int p1), .val (.int p2), .val (.long q3), .second, .val (.int (p1 &&& (7 : Int32))), .val (.int ((XT.ushr p1 (3 : Int32)) &&& (7 : Int32))), .val (.ref o1), .val (.ref o6), .val (.ref o57), .unset, .unset, .unset] [(.int (f0_14 p1 p2 q3 cz))])) t → Steps p.tables e below (T58.setTop (mkF m 311 #[.val (.int p1), .val (.int p2), .val (.long q3), .second, .val (.int (p1 &&& (7 : Int32))), .val (.int ((XT.ushr p1 (3 : Int32)) &&& (7 : Int32))), .val (.ref o1), .val (.ref o6), .val (.ref o57), .unset, .unset, .unset] [(.int (57 : Int32)), (.int (f0_3 p1 p2 q3 cz).toUInt32.toUInt16.toUInt32.toInt32)])) t := by
                                intro t k
                                by_cases h66 : (f0_3 p1 p2 q3 cz).toUInt32.toUInt16.toUInt32.toInt32 = (57 : Int32)
                                · rw [show (f0_14 p1 p2 q3 cz) = (1 : Int32) from if_pos h66] at k
                                  show Steps p.tables e below (T58.setTop (mkF m 311 #[.val (.int p1), .val (.int p2), .val (.long q3), .second, .val (.int (p1 &&& (7 : Int32))), .val (.int ((XT.ushr p1 (3 : Int32)) &&& (7 : Int32))), .val (.ref o1), .val (.ref o6), .val (.ref o57), .unset, .unset, .unset] [(.int (57 : Int32)), (.int (f0_3 p1 p2 q3 cz).toUInt32.toUInt16.toUInt32.toInt32)])) _
                                  refine XS.icmpYes X58.here hx rfl (pc0 := 311) (pc' := 350) rfl (hb hby at_311) rfl (teq h66).1 (by decide) (by decide) ?_
                                  show Steps p.tables e below (T58.setTop (mkF m 350 #[.val (.int p1), .val (.int p2), .val (.long q3), .second, .val (.int (p1 &&& (7 : Int32))), .val (.int ((XT.ushr p1 (3 : Int32)) &&& (7 : Int32))), .val (.ref o1), .val (.ref o6), .val (.ref o57), .unset, .unset, .unset] [])) _
                                  refine XS.iconst X58.here hx rfl (hb hby at_350) ?_
                                  show Steps p.tables e below (T58.setTop (mkF m 351 #[.val (.int p1), .val (.int p2), .val (.long q3), .second, .val (.int (p1 &&& (7 : Int32))), .val (.int ((XT.ushr p1 (3 : Int32)) &&& (7 : Int32))), .val (.ref o1), .val (.ref o6), .val (.ref o57), .unset, .unset, .unset] [(.int (1 : Int32))])) _
                                  refine XS.goto X58.here hx rfl (pc0 := 351) (pc' := 355) rfl (hb hby at_351) (by decide) (by decide) ?_
                                  exact k
                                · obtain ⟨cl67, Ar67, -, S67, M67, H67, -⟩ := id u58_0
                                  have hin67 := inb_of (j := (0 : Int32)) S67 (by decide)
                                  have hat67 := H67.at hin67 (v := (.int (f0_0 p1 p2 q3 cz))) (rfl)
                                  have st78 : ∀ t, Steps p.tables e below (T58.setTop (mkF m 355 #[.val (.int p1), .val (.int p2), .val (.long q3), .second, .val (.int (p1 &&& (7 : Int32))), .val (.int ((XT.ushr p1 (3 : Int32)) &&& (7 : Int32))), .val (.ref o1), .val (.ref o6), .val (.ref o57), .unset, .unset, .unset] [(.int (f0_13 p1 p2 q3 cz))])) t → Steps p.tables e below (T58.setTop (mkF m 320 #[.val (.int p1), .val (.int p2), .val (.long q3), .second, .val (.int (p1 &&& (7 : Int32))), .val (.int ((XT.ushr p1 (3 : Int32)) &&& (7 : Int32))), .val (.ref o1), .val (.ref o6), .val (.ref o57), .unset, .unset, .unset] [(.int (52 : Int32)), (.int (f0_0 p1 p2 q3 cz))])) t := by
                                    intro t k
                                    by_cases h68 : (f0_0 p1 p2 q3 cz) = (52 : Int32)
                                    · obtain ⟨cl69, Ar69, -, S69, M69, H69, -⟩ := id u58_0
                                      have hin69 := inb_of (j := (1 : Int32)) S69 (by decide)
                                      have hat69 := H69.at hin69 (v := (.int (f0_1 p1 p2 q3 cz).toUInt32.toUInt16.toUInt32.toInt32)) (rfl)
                                      have st77 : ∀ t, Steps p.tables e below (T58.setTop (mkF m 355 #[.val (.int p1), .val (.int p2), .val (.long q3), .second, .val (.int (p1 &&& (7 : Int32))), .val (.int ((XT.ushr p1 (3 : Int32)) &&& (7 : Int32))), .val (.ref o1), .val (.ref o6), .val (.ref o57), .unset, .unset, .unset] [(.int (f0_12 p1 p2 q3 cz))])) t → Steps p.tables e below (T58.setTop (mkF m 329 #[.val (.int p1), .val (.int p2), .val (.long q3), .second, .val (.int (p1 &&& (7 : Int32))), .val (.int ((XT.ushr p1 (3 : Int32)) &&& (7 : Int32))), .val (.ref o1), .val (.ref o6), .val (.ref o57), .unset, .unset, .unset] [(.int (51 : Int32)), (.int (f0_1 p1 p2 q3 cz).toUInt32.toUInt16.toUInt32.toInt32)])) t := by
                                        intro t k
                                        by_cases h70 : (f0_1 p1 p2 q3 cz).toUInt32.toUInt16.toUInt32.toInt32 = (51 : Int32)
                                        · obtain ⟨cl71, Ar71, -, S71, M71, H71, -⟩ := id u58_0
                                          have hin71 := inb_of (j := (2 : Int32)) S71 (by decide)
                                          have hat71 := H71.at hin71 (v := (.int (f0_2 p1 p2 q3 cz).toUInt32.toUInt16.toUInt32.toInt32)) (rfl)
                                          have st76 : ∀ t, Steps p.tables e below (T58.setTop (mkF m 355 #[.val (.int p1), .val (.int p2), .val (.long q3), .second, .val (.int (p1 &&& (7 : Int32))), .val (.int ((XT.ushr p1 (3 : Int32)) &&& (7 : Int32))), .val (.ref o1), .val (.ref o6), .val (.ref o57), .unset, .unset, .unset] [(.int (f0_11 p1 p2 q3 cz))])) t → Steps p.tables e below (T58.setTop (mkF m 338 #[.val (.int p1), .val (.int p2), .val (.long q3), .second, .val (.int (p1 &&& (7 : Int32))), .val (.int ((XT.ushr p1 (3 : Int32)) &&& (7 : Int32))), .val (.ref o1), .val (.ref o6), .val (.ref o57), .unset, .unset, .unset] [(.int (51 : Int32)), (.int (f0_2 p1 p2 q3 cz).toUInt32.toUInt16.toUInt32.toInt32)])) t := by
                                            intro t k
                                            by_cases h72 : (f0_2 p1 p2 q3 cz).toUInt32.toUInt16.toUInt32.toInt32 = (51 : Int32)
                                            · obtain ⟨cl73, Ar73, -, S73, M73, H73, -⟩ := id u58_0
                                              have hin73 := inb_of (j := (3 : Int32)) S73 (by decide)
                                              have hat73 := H73.at hin73 (v := (.int (f0_3 p1 p2 q3 cz).toUInt32.toUInt16.toUInt32.toInt32)) (rfl)
                                              have st75 : ∀ t, Steps p.tables e below (T58.setTop (mkF m 355 #[.val (.int p1), .val (.int p2), .val (.long q3), .second, .val (.int (p1 &&& (7 : Int32))), .val (.int ((XT.ushr p1 (3 : Int32)) &&& (7 : Int32))), .val (.ref o1), .val (.ref o6), .val (.ref o57), .unset, .unset, .unset] [(.int (f0_10 p1 p2 q3 cz))])) t → Steps p.tables e below (T58.setTop (mkF m 347 #[.val (.int p1), .val (.int p2), .val (.long q3), .second, .val (.int (p1 &&& (7 : Int32))), .val (.int ((XT.ushr p1 (3 : Int32)) &&& (7 : Int32))), .val (.ref o1), .val (.ref o6), .val (.ref o57), .unset, .unset, .unset] [(.int (55 : Int32)), (.int (f0_3 p1 p2 q3 cz).toUInt32.toUInt16.toUInt32.toInt32)])) t := by
                                                intro t k
                                                by_cases h74 : (f0_3 p1 p2 q3 cz).toUInt32.toUInt16.toUInt32.toInt32 = (55 : Int32)
                                                · rw [show (f0_10 p1 p2 q3 cz) = (1 : Int32) from if_pos h74] at k
                                                  show Steps p.tables e below (T58.setTop (mkF m 347 #[.val (.int p1), .val (.int p2), .val (.long q3), .second, .val (.int (p1 &&& (7 : Int32))), .val (.int ((XT.ushr p1 (3 : Int32)) &&& (7 : Int32))), .val (.ref o1), .val (.ref o6), .val (.ref o57), .unset, .unset, .unset] [(.int (55 : Int32)), (.int (f0_3 p1 p2 q3 cz).toUInt32.toUInt16.toUInt32.toInt32)])) _
                                                  refine XS.icmpNo X58.here hx rfl (hb hby at_347) rfl (teq h74).2 ?_
                                                  show Steps p.tables e below (T58.setTop (mkF m 350 #[.val (.int p1), .val (.int p2), .val (.long q3), .second, .val (.int (p1 &&& (7 : Int32))), .val (.int ((XT.ushr p1 (3 : Int32)) &&& (7 : Int32))), .val (.ref o1), .val (.ref o6), .val (.ref o57), .unset, .unset, .unset] [])) _
                                                  refine XS.iconst X58.here hx rfl (hb hby at_350) ?_
                                                  show Steps p.tables e below (T58.setTop (mkF m 351 #[.val (.int p1), .val (.int p2), .val (.long q3), .second, .val (.int (p1 &&& (7 : Int32))), .val (.int ((XT.ushr p1 (3 : Int32)) &&& (7 : Int32))), .val (.ref o1), .val (.ref o6), .val (.ref o57), .unset, .unset, .unset] [(.int (1 : Int32))])) _
                                                  refine XS.goto X58.here hx rfl (pc0 := 351) (pc' := 355) rfl (hb hby at_351) (by decide) (by decide) ?_
                                                  exact k
                                                · rw [show (f0_10 p1 p2 q3 cz) = (0 : Int32) from if_neg h74] at k
                                                  show Steps p.tables e below (T58.setTop (mkF m 347 #[.val (.int p1), .val (.int p2), .val (.long q3), .second, .val (.int (p1 &&& (7 : Int32))), .val (.int ((XT.ushr p1 (3 : Int32)) &&& (7 : Int32))), .val (.ref o1), .val (.ref o6), .val (.ref o57), .unset, .unset, .unset] [(.int (55 : Int32)), (.int (f0_3 p1 p2 q3 cz).toUInt32.toUInt16.toUInt32.toInt32)])) _
                                                  refine XS.icmpYes X58.here hx rfl (pc0 := 347) (pc' := 354) rfl (hb hby at_347) rfl (feq h74).2 (by decide) (by decide) ?_
                                                  show Steps p.tables e below (T58.setTop (mkF m 354 #[.val (.int p1), .val (.int p2), .val (.long q3), .second, .val (.int (p1 &&& (7 : Int32))), .val (.int ((XT.ushr p1 (3 : Int32)) &&& (7 : Int32))), .val (.ref o1), .val (.ref o6), .val (.ref o57), .unset, .unset, .unset] [])) _
                                                  refine XS.iconst X58.here hx rfl (hb hby at_354) ?_
                                                  exact k
                                              rw [show (f0_11 p1 p2 q3 cz) = (f0_10 p1 p2 q3 cz) from if_pos h72] at k
                                              show Steps p.tables e below (T58.setTop (mkF m 338 #[.val (.int p1), .val (.int p2), .val (.long q3), .second, .val (.int (p1 &&& (7 : Int32))), .val (.int ((XT.ushr p1 (3 : Int32)) &&& (7 : Int32))), .val (.ref o1), .val (.ref o6), .val (.ref o57), .unset, .unset, .unset] [(.int (51 : Int32)), (.int (f0_2 p1 p2 q3 cz).toUInt32.toUInt16.toUInt32.toInt32)])) _
                                              refine XS.icmpNo X58.here hx rfl (hb hby at_338) rfl (teq h72).2 ?_
                                              show Steps p.tables e below (T58.setTop (mkF m 341 #[.val (.int p1), .val (.int p2), .val (.long q3), .second, .val (.int (p1 &&& (7 : Int32))), .val (.int ((XT.ushr p1 (3 : Int32)) &&& (7 : Int32))), .val (.ref o1), .val (.ref o6), .val (.ref o57), .unset, .unset, .unset] [])) _
                                              refine XS.aload X58.here hx rfl (hb hby at_341) rfl rfl ?_
                                              show Steps p.tables e below (T58.setTop (mkF m 343 #[.val (.int p1), .val (.int p2), .val (.long q3), .second, .val (.int (p1 &&& (7 : Int32))), .val (.int ((XT.ushr p1 (3 : Int32)) &&& (7 : Int32))), .val (.ref o1), .val (.ref o6), .val (.ref o57), .unset, .unset, .unset] [(.ref o1)])) _
                                              refine XS.iconst X58.here hx rfl (hb hby at_343) ?_
                                              show Steps p.tables e below (T58.setTop (mkF m 344 #[.val (.int p1), .val (.int p2), .val (.long q3), .second, .val (.int (p1 &&& (7 : Int32))), .val (.int ((XT.ushr p1 (3 : Int32)) &&& (7 : Int32))), .val (.ref o1), .val (.ref o6), .val (.ref o57), .unset, .unset, .unset] [(.int (3 : Int32)), (.ref o1)])) _
                                              refine X58.caload hx (j := (3 : Int32)) (v := (.int (f0_3 p1 p2 q3 cz).toUInt32.toUInt16.toUInt32.toInt32)) Ar73.1 (State.isArrayOf_alike hZ.alike Ar73.2.1) Ar73.2.2 hin73 hat73 (g := (mkF m 344 #[.val (.int p1), .val (.int p2), .val (.long q3), .second, .val (.int (p1 &&& (7 : Int32))), .val (.int ((XT.ushr p1 (3 : Int32)) &&& (7 : Int32))), .val (.ref o1), .val (.ref o6), .val (.ref o57), .unset, .unset, .unset] [(.int (3 : Int32)), (.ref o1)])) rfl rfl (hb hby at_344) _ ?_
                                              show Steps p.tables e below (T58.setTop (mkF m 345 #[.val (.int p1), .val (.int p2), .val (.long q3), .second, .val (.int (p1 &&& (7 : Int32))), .val (.int ((XT.ushr p1 (3 : Int32)) &&& (7 : Int32))), .val (.ref o1), .val (.ref o6), .val (.ref o57), .unset, .unset, .unset] [(.int (f0_3 p1 p2 q3 cz).toUInt32.toUInt16.toUInt32.toInt32)])) _
                                              refine XS.bipush X58.here hx rfl (hb hby at_345) ?_
                                              show Steps p.tables e below (T58.setTop (mkF m 347 #[.val (.int p1), .val (.int p2), .val (.long q3), .second, .val (.int (p1 &&& (7 : Int32))), .val (.int ((XT.ushr p1 (3 : Int32)) &&& (7 : Int32))), .val (.ref o1), .val (.ref o6), .val (.ref o57), .unset, .unset, .unset] [(.int (55 : Int32)), (.int (f0_3 p1 p2 q3 cz).toUInt32.toUInt16.toUInt32.toInt32)])) _
                                              refine st75 _ ?_
                                              exact k
                                            · rw [show (f0_11 p1 p2 q3 cz) = (0 : Int32) from if_neg h72] at k
                                              show Steps p.tables e below (T58.setTop (mkF m 338 #[.val (.int p1), .val (.int p2), .val (.long q3), .second, .val (.int (p1 &&& (7 : Int32))), .val (.int ((XT.ushr p1 (3 : Int32)) &&& (7 : Int32))), .val (.ref o1), .val (.ref o6), .val (.ref o57), .unset, .unset, .unset] [(.int (51 : Int32)), (.int (f0_2 p1 p2 q3 cz).toUInt32.toUInt16.toUInt32.toInt32)])) _
                                              refine XS.icmpYes X58.here hx rfl (pc0 := 338) (pc' := 354) rfl (hb hby at_338) rfl (feq h72).2 (by decide) (by decide) ?_
                                              show Steps p.tables e below (T58.setTop (mkF m 354 #[.val (.int p1), .val (.int p2), .val (.long q3), .second, .val (.int (p1 &&& (7 : Int32))), .val (.int ((XT.ushr p1 (3 : Int32)) &&& (7 : Int32))), .val (.ref o1), .val (.ref o6), .val (.ref o57), .unset, .unset, .unset] [])) _
                                              refine XS.iconst X58.here hx rfl (hb hby at_354) ?_
                                              exact k
                                          rw [show (f0_12 p1 p2 q3 cz) = (f0_11 p1 p2 q3 cz) from if_pos h70] at k
                                          show Steps p.tables e below (T58.setTop (mkF m 329 #[.val (.int p1), .val (.int p2), .val (.long q3), .second, .val (.int (p1 &&& (7 : Int32))), .val (.int ((XT.ushr p1 (3 : Int32)) &&& (7 : Int32))), .val (.ref o1), .val (.ref o6), .val (.ref o57), .unset, .unset, .unset] [(.int (51 : Int32)), (.int (f0_1 p1 p2 q3 cz).toUInt32.toUInt16.toUInt32.toInt32)])) _
                                          refine XS.icmpNo X58.here hx rfl (hb hby at_329) rfl (teq h70).2 ?_
                                          show Steps p.tables e below (T58.setTop (mkF m 332 #[.val (.int p1), .val (.int p2), .val (.long q3), .second, .val (.int (p1 &&& (7 : Int32))), .val (.int ((XT.ushr p1 (3 : Int32)) &&& (7 : Int32))), .val (.ref o1), .val (.ref o6), .val (.ref o57), .unset, .unset, .unset] [])) _
                                          refine XS.aload X58.here hx rfl (hb hby at_332) rfl rfl ?_
                                          show Steps p.tables e below (T58.setTop (mkF m 334 #[.val (.int p1), .val (.int p2), .val (.long q3), .second, .val (.int (p1 &&& (7 : Int32))), .val (.int ((XT.ushr p1 (3 : Int32)) &&& (7 : Int32))), .val (.ref o1), .val (.ref o6), .val (.ref o57), .unset, .unset, .unset] [(.ref o1)])) _
                                          refine XS.iconst X58.here hx rfl (hb hby at_334) ?_
                                          show Steps p.tables e below (T58.setTop (mkF m 335 #[.val (.int p1), .val (.int p2), .val (.long q3), .second, .val (.int (p1 &&& (7 : Int32))), .val (.int ((XT.ushr p1 (3 : Int32)) &&& (7 : Int32))), .val (.ref o1), .val (.ref o6), .val (.ref o57), .unset, .unset, .unset] [(.int (2 : Int32)), (.ref o1)])) _
                                          refine X58.caload hx (j := (2 : Int32)) (v := (.int (f0_2 p1 p2 q3 cz).toUInt32.toUInt16.toUInt32.toInt32)) Ar71.1 (State.isArrayOf_alike hZ.alike Ar71.2.1) Ar71.2.2 hin71 hat71 (g := (mkF m 335 #[.val (.int p1), .val (.int p2), .val (.long q3), .second, .val (.int (p1 &&& (7 : Int32))), .val (.int ((XT.ushr p1 (3 : Int32)) &&& (7 : Int32))), .val (.ref o1), .val (.ref o6), .val (.ref o57), .unset, .unset, .unset] [(.int (2 : Int32)), (.ref o1)])) rfl rfl (hb hby at_335) _ ?_
                                          show Steps p.tables e below (T58.setTop (mkF m 336 #[.val (.int p1), .val (.int p2), .val (.long q3), .second, .val (.int (p1 &&& (7 : Int32))), .val (.int ((XT.ushr p1 (3 : Int32)) &&& (7 : Int32))), .val (.ref o1), .val (.ref o6), .val (.ref o57), .unset, .unset, .unset] [(.int (f0_2 p1 p2 q3 cz).toUInt32.toUInt16.toUInt32.toInt32)])) _
                                          refine XS.bipush X58.here hx rfl (hb hby at_336) ?_
                                          show Steps p.tables e below (T58.setTop (mkF m 338 #[.val (.int p1), .val (.int p2), .val (.long q3), .second, .val (.int (p1 &&& (7 : Int32))), .val (.int ((XT.ushr p1 (3 : Int32)) &&& (7 : Int32))), .val (.ref o1), .val (.ref o6), .val (.ref o57), .unset, .unset, .unset] [(.int (51 : Int32)), (.int (f0_2 p1 p2 q3 cz).toUInt32.toUInt16.toUInt32.toInt32)])) _
                                          refine st76 _ ?_
                                          exact k
                                        · rw [show (f0_12 p1 p2 q3 cz) = (0 : Int32) from if_neg h70] at k
                                          show Steps p.tables e below (T58.setTop (mkF m 329 #[.val (.int p1), .val (.int p2), .val (.long q3), .second, .val (.int (p1 &&& (7 : Int32))), .val (.int ((XT.ushr p1 (3 : Int32)) &&& (7 : Int32))), .val (.ref o1), .val (.ref o6), .val (.ref o57), .unset, .unset, .unset] [(.int (51 : Int32)), (.int (f0_1 p1 p2 q3 cz).toUInt32.toUInt16.toUInt32.toInt32)])) _
                                          refine XS.icmpYes X58.here hx rfl (pc0 := 329) (pc' := 354) rfl (hb hby at_329) rfl (feq h70).2 (by decide) (by decide) ?_
                                          show Steps p.tables e below (T58.setTop (mkF m 354 #[.val (.int p1), .val (.int p2), .val (.long q3), .second, .val (.int (p1 &&& (7 : Int32))), .val (.int ((XT.ushr p1 (3 : Int32)) &&& (7 : Int32))), .val (.ref o1), .val (.ref o6), .val (.ref o57), .unset, .unset, .unset] [])) _
                                          refine XS.iconst X58.here hx rfl (hb hby at_354) ?_
                                          exact k
                                      rw [show (f0_13 p1 p2 q3 cz) = (f0_12 p1 p2 q3 cz) from if_pos h68] at k
                                      show Steps p.tables e below (T58.setTop (mkF m 320 #[.val (.int p1), .val (.int p2), .val (.long q3), .second, .val (.int (p1 &&& (7 : Int32))), .val (.int ((XT.ushr p1 (3 : Int32)) &&& (7 : Int32))), .val (.ref o1), .val (.ref o6), .val (.ref o57), .unset, .unset, .unset] [(.int (52 : Int32)), (.int (f0_0 p1 p2 q3 cz))])) _
                                      refine XS.icmpNo X58.here hx rfl (hb hby at_320) rfl (teq h68).2 ?_
                                      show Steps p.tables e below (T58.setTop (mkF m 323 #[.val (.int p1), .val (.int p2), .val (.long q3), .second, .val (.int (p1 &&& (7 : Int32))), .val (.int ((XT.ushr p1 (3 : Int32)) &&& (7 : Int32))), .val (.ref o1), .val (.ref o6), .val (.ref o57), .unset, .unset, .unset] [])) _
                                      refine XS.aload X58.here hx rfl (hb hby at_323) rfl rfl ?_
                                      show Steps p.tables e below (T58.setTop (mkF m 325 #[.val (.int p1), .val (.int p2), .val (.long q3), .second, .val (.int (p1 &&& (7 : Int32))), .val (.int ((XT.ushr p1 (3 : Int32)) &&& (7 : Int32))), .val (.ref o1), .val (.ref o6), .val (.ref o57), .unset, .unset, .unset] [(.ref o1)])) _
                                      refine XS.iconst X58.here hx rfl (hb hby at_325) ?_
                                      show Steps p.tables e below (T58.setTop (mkF m 326 #[.val (.int p1), .val (.int p2), .val (.long q3), .second, .val (.int (p1 &&& (7 : Int32))), .val (.int ((XT.ushr p1 (3 : Int32)) &&& (7 : Int32))), .val (.ref o1), .val (.ref o6), .val (.ref o57), .unset, .unset, .unset] [(.int (1 : Int32)), (.ref o1)])) _
                                      refine X58.caload hx (j := (1 : Int32)) (v := (.int (f0_1 p1 p2 q3 cz).toUInt32.toUInt16.toUInt32.toInt32)) Ar69.1 (State.isArrayOf_alike hZ.alike Ar69.2.1) Ar69.2.2 hin69 hat69 (g := (mkF m 326 #[.val (.int p1), .val (.int p2), .val (.long q3), .second, .val (.int (p1 &&& (7 : Int32))), .val (.int ((XT.ushr p1 (3 : Int32)) &&& (7 : Int32))), .val (.ref o1), .val (.ref o6), .val (.ref o57), .unset, .unset, .unset] [(.int (1 : Int32)), (.ref o1)])) rfl rfl (hb hby at_326) _ ?_
                                      show Steps p.tables e below (T58.setTop (mkF m 327 #[.val (.int p1), .val (.int p2), .val (.long q3), .second, .val (.int (p1 &&& (7 : Int32))), .val (.int ((XT.ushr p1 (3 : Int32)) &&& (7 : Int32))), .val (.ref o1), .val (.ref o6), .val (.ref o57), .unset, .unset, .unset] [(.int (f0_1 p1 p2 q3 cz).toUInt32.toUInt16.toUInt32.toInt32)])) _
                                      refine XS.bipush X58.here hx rfl (hb hby at_327) ?_
                                      show Steps p.tables e below (T58.setTop (mkF m 329 #[.val (.int p1), .val (.int p2), .val (.long q3), .second, .val (.int (p1 &&& (7 : Int32))), .val (.int ((XT.ushr p1 (3 : Int32)) &&& (7 : Int32))), .val (.ref o1), .val (.ref o6), .val (.ref o57), .unset, .unset, .unset] [(.int (51 : Int32)), (.int (f0_1 p1 p2 q3 cz).toUInt32.toUInt16.toUInt32.toInt32)])) _
                                      refine st77 _ ?_
                                      exact k
                                    · rw [show (f0_13 p1 p2 q3 cz) = (0 : Int32) from if_neg h68] at k
                                      show Steps p.tables e below (T58.setTop (mkF m 320 #[.val (.int p1), .val (.int p2), .val (.long q3), .second, .val (.int (p1 &&& (7 : Int32))), .val (.int ((XT.ushr p1 (3 : Int32)) &&& (7 : Int32))), .val (.ref o1), .val (.ref o6), .val (.ref o57), .unset, .unset, .unset] [(.int (52 : Int32)), (.int (f0_0 p1 p2 q3 cz))])) _
                                      refine XS.icmpYes X58.here hx rfl (pc0 := 320) (pc' := 354) rfl (hb hby at_320) rfl (feq h68).2 (by decide) (by decide) ?_
                                      show Steps p.tables e below (T58.setTop (mkF m 354 #[.val (.int p1), .val (.int p2), .val (.long q3), .second, .val (.int (p1 &&& (7 : Int32))), .val (.int ((XT.ushr p1 (3 : Int32)) &&& (7 : Int32))), .val (.ref o1), .val (.ref o6), .val (.ref o57), .unset, .unset, .unset] [])) _
                                      refine XS.iconst X58.here hx rfl (hb hby at_354) ?_
                                      exact k
                                  rw [show (f0_14 p1 p2 q3 cz) = (f0_13 p1 p2 q3 cz) from if_neg h66] at k
                                  show Steps p.tables e below (T58.setTop (mkF m 311 #[.val (.int p1), .val (.int p2), .val (.long q3), .second, .val (.int (p1 &&& (7 : Int32))), .val (.int ((XT.ushr p1 (3 : Int32)) &&& (7 : Int32))), .val (.ref o1), .val (.ref o6), .val (.ref o57), .unset, .unset, .unset] [(.int (57 : Int32)), (.int (f0_3 p1 p2 q3 cz).toUInt32.toUInt16.toUInt32.toInt32)])) _
                                  refine XS.icmpNo X58.here hx rfl (hb hby at_311) rfl (feq h66).1 ?_
                                  show Steps p.tables e below (T58.setTop (mkF m 314 #[.val (.int p1), .val (.int p2), .val (.long q3), .second, .val (.int (p1 &&& (7 : Int32))), .val (.int ((XT.ushr p1 (3 : Int32)) &&& (7 : Int32))), .val (.ref o1), .val (.ref o6), .val (.ref o57), .unset, .unset, .unset] [])) _
                                  refine XS.aload X58.here hx rfl (hb hby at_314) rfl rfl ?_
                                  show Steps p.tables e below (T58.setTop (mkF m 316 #[.val (.int p1), .val (.int p2), .val (.long q3), .second, .val (.int (p1 &&& (7 : Int32))), .val (.int ((XT.ushr p1 (3 : Int32)) &&& (7 : Int32))), .val (.ref o1), .val (.ref o6), .val (.ref o57), .unset, .unset, .unset] [(.ref o1)])) _
                                  refine XS.iconst X58.here hx rfl (hb hby at_316) ?_
                                  show Steps p.tables e below (T58.setTop (mkF m 317 #[.val (.int p1), .val (.int p2), .val (.long q3), .second, .val (.int (p1 &&& (7 : Int32))), .val (.int ((XT.ushr p1 (3 : Int32)) &&& (7 : Int32))), .val (.ref o1), .val (.ref o6), .val (.ref o57), .unset, .unset, .unset] [(.int (0 : Int32)), (.ref o1)])) _
                                  refine X58.caload hx (j := (0 : Int32)) (v := (.int (f0_0 p1 p2 q3 cz))) Ar67.1 (State.isArrayOf_alike hZ.alike Ar67.2.1) Ar67.2.2 hin67 hat67 (g := (mkF m 317 #[.val (.int p1), .val (.int p2), .val (.long q3), .second, .val (.int (p1 &&& (7 : Int32))), .val (.int ((XT.ushr p1 (3 : Int32)) &&& (7 : Int32))), .val (.ref o1), .val (.ref o6), .val (.ref o57), .unset, .unset, .unset] [(.int (0 : Int32)), (.ref o1)])) rfl rfl (hb hby at_317) _ ?_
                                  show Steps p.tables e below (T58.setTop (mkF m 318 #[.val (.int p1), .val (.int p2), .val (.long q3), .second, .val (.int (p1 &&& (7 : Int32))), .val (.int ((XT.ushr p1 (3 : Int32)) &&& (7 : Int32))), .val (.ref o1), .val (.ref o6), .val (.ref o57), .unset, .unset, .unset] [(.int (f0_0 p1 p2 q3 cz))])) _
                                  refine XS.bipush X58.here hx rfl (hb hby at_318) ?_
                                  show Steps p.tables e below (T58.setTop (mkF m 320 #[.val (.int p1), .val (.int p2), .val (.long q3), .second, .val (.int (p1 &&& (7 : Int32))), .val (.int ((XT.ushr p1 (3 : Int32)) &&& (7 : Int32))), .val (.ref o1), .val (.ref o6), .val (.ref o57), .unset, .unset, .unset] [(.int (52 : Int32)), (.int (f0_0 p1 p2 q3 cz))])) _
                                  refine st78 _ ?_
                                  exact k
                              rw [show (f0_15 p1 p2 q3 cz) = (f0_14 p1 p2 q3 cz) from if_pos h64] at k
                              show Steps p.tables e below (T58.setTop (mkF m 302 #[.val (.int p1), .val (.int p2), .val (.long q3), .second, .val (.int (p1 &&& (7 : Int32))), .val (.int ((XT.ushr p1 (3 : Int32)) &&& (7 : Int32))), .val (.ref o1), .val (.ref o6), .val (.ref o57), .unset, .unset, .unset] [(.int (49 : Int32)), (.int (f0_2 p1 p2 q3 cz).toUInt32.toUInt16.toUInt32.toInt32)])) _
                              refine XS.icmpNo X58.here hx rfl (hb hby at_302) rfl (teq h64).2 ?_
                              show Steps p.tables e below (T58.setTop (mkF m 305 #[.val (.int p1), .val (.int p2), .val (.long q3), .second, .val (.int (p1 &&& (7 : Int32))), .val (.int ((XT.ushr p1 (3 : Int32)) &&& (7 : Int32))), .val (.ref o1), .val (.ref o6), .val (.ref o57), .unset, .unset, .unset] [])) _
                              refine XS.aload X58.here hx rfl (hb hby at_305) rfl rfl ?_
                              show Steps p.tables e below (T58.setTop (mkF m 307 #[.val (.int p1), .val (.int p2), .val (.long q3), .second, .val (.int (p1 &&& (7 : Int32))), .val (.int ((XT.ushr p1 (3 : Int32)) &&& (7 : Int32))), .val (.ref o1), .val (.ref o6), .val (.ref o57), .unset, .unset, .unset] [(.ref o1)])) _
                              refine XS.iconst X58.here hx rfl (hb hby at_307) ?_
                              show Steps p.tables e below (T58.setTop (mkF m 308 #[.val (.int p1), .val (.int p2), .val (.long q3), .second, .val (.int (p1 &&& (7 : Int32))), .val (.int ((XT.ushr p1 (3 : Int32)) &&& (7 : Int32))), .val (.ref o1), .val (.ref o6), .val (.ref o57), .unset, .unset, .unset] [(.int (3 : Int32)), (.ref o1)])) _
                              refine X58.caload hx (j := (3 : Int32)) (v := (.int (f0_3 p1 p2 q3 cz).toUInt32.toUInt16.toUInt32.toInt32)) Ar65.1 (State.isArrayOf_alike hZ.alike Ar65.2.1) Ar65.2.2 hin65 hat65 (g := (mkF m 308 #[.val (.int p1), .val (.int p2), .val (.long q3), .second, .val (.int (p1 &&& (7 : Int32))), .val (.int ((XT.ushr p1 (3 : Int32)) &&& (7 : Int32))), .val (.ref o1), .val (.ref o6), .val (.ref o57), .unset, .unset, .unset] [(.int (3 : Int32)), (.ref o1)])) rfl rfl (hb hby at_308) _ ?_
                              show Steps p.tables e below (T58.setTop (mkF m 309 #[.val (.int p1), .val (.int p2), .val (.long q3), .second, .val (.int (p1 &&& (7 : Int32))), .val (.int ((XT.ushr p1 (3 : Int32)) &&& (7 : Int32))), .val (.ref o1), .val (.ref o6), .val (.ref o57), .unset, .unset, .unset] [(.int (f0_3 p1 p2 q3 cz).toUInt32.toUInt16.toUInt32.toInt32)])) _
                              refine XS.bipush X58.here hx rfl (hb hby at_309) ?_
                              show Steps p.tables e below (T58.setTop (mkF m 311 #[.val (.int p1), .val (.int p2), .val (.long q3), .second, .val (.int (p1 &&& (7 : Int32))), .val (.int ((XT.ushr p1 (3 : Int32)) &&& (7 : Int32))), .val (.ref o1), .val (.ref o6), .val (.ref o57), .unset, .unset, .unset] [(.int (57 : Int32)), (.int (f0_3 p1 p2 q3 cz).toUInt32.toUInt16.toUInt32.toInt32)])) _
                              refine st79 _ ?_
                              exact k
                            · obtain ⟨cl80, Ar80, -, S80, M80, H80, -⟩ := id u58_0
                              have hin80 := inb_of (j := (0 : Int32)) S80 (by decide)
                              have hat80 := H80.at hin80 (v := (.int (f0_0 p1 p2 q3 cz))) (rfl)
                              have st91 : ∀ t, Steps p.tables e below (T58.setTop (mkF m 355 #[.val (.int p1), .val (.int p2), .val (.long q3), .second, .val (.int (p1 &&& (7 : Int32))), .val (.int ((XT.ushr p1 (3 : Int32)) &&& (7 : Int32))), .val (.ref o1), .val (.ref o6), .val (.ref o57), .unset, .unset, .unset] [(.int (f0_13 p1 p2 q3 cz))])) t → Steps p.tables e below (T58.setTop (mkF m 320 #[.val (.int p1), .val (.int p2), .val (.long q3), .second, .val (.int (p1 &&& (7 : Int32))), .val (.int ((XT.ushr p1 (3 : Int32)) &&& (7 : Int32))), .val (.ref o1), .val (.ref o6), .val (.ref o57), .unset, .unset, .unset] [(.int (52 : Int32)), (.int (f0_0 p1 p2 q3 cz))])) t := by
                                intro t k
                                by_cases h81 : (f0_0 p1 p2 q3 cz) = (52 : Int32)
                                · obtain ⟨cl82, Ar82, -, S82, M82, H82, -⟩ := id u58_0
                                  have hin82 := inb_of (j := (1 : Int32)) S82 (by decide)
                                  have hat82 := H82.at hin82 (v := (.int (f0_1 p1 p2 q3 cz).toUInt32.toUInt16.toUInt32.toInt32)) (rfl)
                                  have st90 : ∀ t, Steps p.tables e below (T58.setTop (mkF m 355 #[.val (.int p1), .val (.int p2), .val (.long q3), .second, .val (.int (p1 &&& (7 : Int32))), .val (.int ((XT.ushr p1 (3 : Int32)) &&& (7 : Int32))), .val (.ref o1), .val (.ref o6), .val (.ref o57), .unset, .unset, .unset] [(.int (f0_12 p1 p2 q3 cz))])) t → Steps p.tables e below (T58.setTop (mkF m 329 #[.val (.int p1), .val (.int p2), .val (.long q3), .second, .val (.int (p1 &&& (7 : Int32))), .val (.int ((XT.ushr p1 (3 : Int32)) &&& (7 : Int32))), .val (.ref o1), .val (.ref o6), .val (.ref o57), .unset, .unset, .unset] [(.int (51 : Int32)), (.int (f0_1 p1 p2 q3 cz).toUInt32.toUInt16.toUInt32.toInt32)])) t := by
                                    intro t k
                                    by_cases h83 : (f0_1 p1 p2 q3 cz).toUInt32.toUInt16.toUInt32.toInt32 = (51 : Int32)
                                    · obtain ⟨cl84, Ar84, -, S84, M84, H84, -⟩ := id u58_0
                                      have hin84 := inb_of (j := (2 : Int32)) S84 (by decide)
                                      have hat84 := H84.at hin84 (v := (.int (f0_2 p1 p2 q3 cz).toUInt32.toUInt16.toUInt32.toInt32)) (rfl)
                                      have st89 : ∀ t, Steps p.tables e below (T58.setTop (mkF m 355 #[.val (.int p1), .val (.int p2), .val (.long q3), .second, .val (.int (p1 &&& (7 : Int32))), .val (.int ((XT.ushr p1 (3 : Int32)) &&& (7 : Int32))), .val (.ref o1), .val (.ref o6), .val (.ref o57), .unset, .unset, .unset] [(.int (f0_11 p1 p2 q3 cz))])) t → Steps p.tables e below (T58.setTop (mkF m 338 #[.val (.int p1), .val (.int p2), .val (.long q3), .second, .val (.int (p1 &&& (7 : Int32))), .val (.int ((XT.ushr p1 (3 : Int32)) &&& (7 : Int32))), .val (.ref o1), .val (.ref o6), .val (.ref o57), .unset, .unset, .unset] [(.int (51 : Int32)), (.int (f0_2 p1 p2 q3 cz).toUInt32.toUInt16.toUInt32.toInt32)])) t := by
                                        intro t k
                                        by_cases h85 : (f0_2 p1 p2 q3 cz).toUInt32.toUInt16.toUInt32.toInt32 = (51 : Int32)
                                        · obtain ⟨cl86, Ar86, -, S86, M86, H86, -⟩ := id u58_0
                                          have hin86 := inb_of (j := (3 : Int32)) S86 (by decide)
                                          have hat86 := H86.at hin86 (v := (.int (f0_3 p1 p2 q3 cz).toUInt32.toUInt16.toUInt32.toInt32)) (rfl)
                                          have st88 : ∀ t, Steps p.tables e below (T58.setTop (mkF m 355 #[.val (.int p1), .val (.int p2), .val (.long q3), .second, .val (.int (p1 &&& (7 : Int32))), .val (.int ((XT.ushr p1 (3 : Int32)) &&& (7 : Int32))), .val (.ref o1), .val (.ref o6), .val (.ref o57), .unset, .unset, .unset] [(.int (f0_10 p1 p2 q3 cz))])) t → Steps p.tables e below (T58.setTop (mkF m 347 #[.val (.int p1), .val (.int p2), .val (.long q3), .second, .val (.int (p1 &&& (7 : Int32))), .val (.int ((XT.ushr p1 (3 : Int32)) &&& (7 : Int32))), .val (.ref o1), .val (.ref o6), .val (.ref o57), .unset, .unset, .unset] [(.int (55 : Int32)), (.int (f0_3 p1 p2 q3 cz).toUInt32.toUInt16.toUInt32.toInt32)])) t := by
                                            intro t k
                                            by_cases h87 : (f0_3 p1 p2 q3 cz).toUInt32.toUInt16.toUInt32.toInt32 = (55 : Int32)
                                            · rw [show (f0_10 p1 p2 q3 cz) = (1 : Int32) from if_pos h87] at k
                                              show Steps p.tables e below (T58.setTop (mkF m 347 #[.val (.int p1), .val (.int p2), .val (.long q3), .second, .val (.int (p1 &&& (7 : Int32))), .val (.int ((XT.ushr p1 (3 : Int32)) &&& (7 : Int32))), .val (.ref o1), .val (.ref o6), .val (.ref o57), .unset, .unset, .unset] [(.int (55 : Int32)), (.int (f0_3 p1 p2 q3 cz).toUInt32.toUInt16.toUInt32.toInt32)])) _
                                              refine XS.icmpNo X58.here hx rfl (hb hby at_347) rfl (teq h87).2 ?_
                                              show Steps p.tables e below (T58.setTop (mkF m 350 #[.val (.int p1), .val (.int p2), .val (.long q3), .second, .val (.int (p1 &&& (7 : Int32))), .val (.int ((XT.ushr p1 (3 : Int32)) &&& (7 : Int32))), .val (.ref o1), .val (.ref o6), .val (.ref o57), .unset, .unset, .unset] [])) _
                                              refine XS.iconst X58.here hx rfl (hb hby at_350) ?_
                                              show Steps p.tables e below (T58.setTop (mkF m 351 #[.val (.int p1), .val (.int p2), .val (.long q3), .second, .val (.int (p1 &&& (7 : Int32))), .val (.int ((XT.ushr p1 (3 : Int32)) &&& (7 : Int32))), .val (.ref o1), .val (.ref o6), .val (.ref o57), .unset, .unset, .unset] [(.int (1 : Int32))])) _
                                              refine XS.goto X58.here hx rfl (pc0 := 351) (pc' := 355) rfl (hb hby at_351) (by decide) (by decide) ?_
                                              exact k
                                            · rw [show (f0_10 p1 p2 q3 cz) = (0 : Int32) from if_neg h87] at k
                                              show Steps p.tables e below (T58.setTop (mkF m 347 #[.val (.int p1), .val (.int p2), .val (.long q3), .second, .val (.int (p1 &&& (7 : Int32))), .val (.int ((XT.ushr p1 (3 : Int32)) &&& (7 : Int32))), .val (.ref o1), .val (.ref o6), .val (.ref o57), .unset, .unset, .unset] [(.int (55 : Int32)), (.int (f0_3 p1 p2 q3 cz).toUInt32.toUInt16.toUInt32.toInt32)])) _
                                              refine XS.icmpYes X58.here hx rfl (pc0 := 347) (pc' := 354) rfl (hb hby at_347) rfl (feq h87).2 (by decide) (by decide) ?_
                                              show Steps p.tables e below (T58.setTop (mkF m 354 #[.val (.int p1), .val (.int p2), .val (.long q3), .second, .val (.int (p1 &&& (7 : Int32))), .val (.int ((XT.ushr p1 (3 : Int32)) &&& (7 : Int32))), .val (.ref o1), .val (.ref o6), .val (.ref o57), .unset, .unset, .unset] [])) _
                                              refine XS.iconst X58.here hx rfl (hb hby at_354) ?_
                                              exact k
                                          rw [show (f0_11 p1 p2 q3 cz) = (f0_10 p1 p2 q3 cz) from if_pos h85] at k
                                          show Steps p.tables e below (T58.setTop (mkF m 338 #[.val (.int p1), .val (.int p2), .val (.long q3), .second, .val (.int (p1 &&& (7 : Int32))), .val (.int ((XT.ushr p1 (3 : Int32)) &&& (7 : Int32))), .val (.ref o1), .val (.ref o6), .val (.ref o57), .unset, .unset, .unset] [(.int (51 : Int32)), (.int (f0_2 p1 p2 q3 cz).toUInt32.toUInt16.toUInt32.toInt32)])) _
                                          refine XS.icmpNo X58.here hx rfl (hb hby at_338) rfl (teq h85).2 ?_
                                          show Steps p.tables e below (T58.setTop (mkF m 341 #[.val (.int p1), .val (.int p2), .val (.long q3), .second, .val (.int (p1 &&& (7 : Int32))), .val (.int ((XT.ushr p1 (3 : Int32)) &&& (7 : Int32))), .val (.ref o1), .val (.ref o6), .val (.ref o57), .unset, .unset, .unset] [])) _
                                          refine XS.aload X58.here hx rfl (hb hby at_341) rfl rfl ?_
                                          show Steps p.tables e below (T58.setTop (mkF m 343 #[.val (.int p1), .val (.int p2), .val (.long q3), .second, .val (.int (p1 &&& (7 : Int32))), .val (.int ((XT.ushr p1 (3 : Int32)) &&& (7 : Int32))), .val (.ref o1), .val (.ref o6), .val (.ref o57), .unset, .unset, .unset] [(.ref o1)])) _
                                          refine XS.iconst X58.here hx rfl (hb hby at_343) ?_
                                          show Steps p.tables e below (T58.setTop (mkF m 344 #[.val (.int p1), .val (.int p2), .val (.long q3), .second, .val (.int (p1 &&& (7 : Int32))), .val (.int ((XT.ushr p1 (3 : Int32)) &&& (7 : Int32))), .val (.ref o1), .val (.ref o6), .val (.ref o57), .unset, .unset, .unset] [(.int (3 : Int32)), (.ref o1)])) _
                                          refine X58.caload hx (j := (3 : Int32)) (v := (.int (f0_3 p1 p2 q3 cz).toUInt32.toUInt16.toUInt32.toInt32)) Ar86.1 (State.isArrayOf_alike hZ.alike Ar86.2.1) Ar86.2.2 hin86 hat86 (g := (mkF m 344 #[.val (.int p1), .val (.int p2), .val (.long q3), .second, .val (.int (p1 &&& (7 : Int32))), .val (.int ((XT.ushr p1 (3 : Int32)) &&& (7 : Int32))), .val (.ref o1), .val (.ref o6), .val (.ref o57), .unset, .unset, .unset] [(.int (3 : Int32)), (.ref o1)])) rfl rfl (hb hby at_344) _ ?_
                                          show Steps p.tables e below (T58.setTop (mkF m 345 #[.val (.int p1), .val (.int p2), .val (.long q3), .second, .val (.int (p1 &&& (7 : Int32))), .val (.int ((XT.ushr p1 (3 : Int32)) &&& (7 : Int32))), .val (.ref o1), .val (.ref o6), .val (.ref o57), .unset, .unset, .unset] [(.int (f0_3 p1 p2 q3 cz).toUInt32.toUInt16.toUInt32.toInt32)])) _
                                          refine XS.bipush X58.here hx rfl (hb hby at_345) ?_
                                          show Steps p.tables e below (T58.setTop (mkF m 347 #[.val (.int p1), .val (.int p2), .val (.long q3), .second, .val (.int (p1 &&& (7 : Int32))), .val (.int ((XT.ushr p1 (3 : Int32)) &&& (7 : Int32))), .val (.ref o1), .val (.ref o6), .val (.ref o57), .unset, .unset, .unset] [(.int (55 : Int32)), (.int (f0_3 p1 p2 q3 cz).toUInt32.toUInt16.toUInt32.toInt32)])) _
                                          refine st88 _ ?_
                                          exact k
                                        · rw [show (f0_11 p1 p2 q3 cz) = (0 : Int32) from if_neg h85] at k
                                          show Steps p.tables e below (T58.setTop (mkF m 338 #[.val (.int p1), .val (.int p2), .val (.long q3), .second, .val (.int (p1 &&& (7 : Int32))), .val (.int ((XT.ushr p1 (3 : Int32)) &&& (7 : Int32))), .val (.ref o1), .val (.ref o6), .val (.ref o57), .unset, .unset, .unset] [(.int (51 : Int32)), (.int (f0_2 p1 p2 q3 cz).toUInt32.toUInt16.toUInt32.toInt32)])) _
                                          refine XS.icmpYes X58.here hx rfl (pc0 := 338) (pc' := 354) rfl (hb hby at_338) rfl (feq h85).2 (by decide) (by decide) ?_
                                          show Steps p.tables e below (T58.setTop (mkF m 354 #[.val (.int p1), .val (.int p2), .val (.long q3), .second, .val (.int (p1 &&& (7 : Int32))), .val (.int ((XT.ushr p1 (3 : Int32)) &&& (7 : Int32))), .val (.ref o1), .val (.ref o6), .val (.ref o57), .unset, .unset, .unset] [])) _
                                          refine XS.iconst X58.here hx rfl (hb hby at_354) ?_
                                          exact k
                                      rw [show (f0_12 p1 p2 q3 cz) = (f0_11 p1 p2 q3 cz) from if_pos h83] at k
                                      show Steps p.tables e below (T58.setTop (mkF m 329 #[.val (.int p1), .val (.int p2), .val (.long q3), .second, .val (.int (p1 &&& (7 : Int32))), .val (.int ((XT.ushr p1 (3 : Int32)) &&& (7 : Int32))), .val (.ref o1), .val (.ref o6), .val (.ref o57), .unset, .unset, .unset] [(.int (51 : Int32)), (.int (f0_1 p1 p2 q3 cz).toUInt32.toUInt16.toUInt32.toInt32)])) _
                                      refine XS.icmpNo X58.here hx rfl (hb hby at_329) rfl (teq h83).2 ?_
                                      show Steps p.tables e below (T58.setTop (mkF m 332 #[.val (.int p1), .val (.int p2), .val (.long q3), .second, .val (.int (p1 &&& (7 : Int32))), .val (.int ((XT.ushr p1 (3 : Int32)) &&& (7 : Int32))), .val (.ref o1), .val (.ref o6), .val (.ref o57), .unset, .unset, .unset] [])) _
                                      refine XS.aload X58.here hx rfl (hb hby at_332) rfl rfl ?_
                                      show Steps p.tables e below (T58.setTop (mkF m 334 #[.val (.int p1), .val (.int p2), .val (.long q3), .second, .val (.int (p1 &&& (7 : Int32))), .val (.int ((XT.ushr p1 (3 : Int32)) &&& (7 : Int32))), .val (.ref o1), .val (.ref o6), .val (.ref o57), .unset, .unset, .unset] [(.ref o1)])) _
                                      refine XS.iconst X58.here hx rfl (hb hby at_334) ?_
                                      show Steps p.tables e below (T58.setTop (mkF m 335 #[.val (.int p1), .val (.int p2), .val (.long q3), .second, .val (.int (p1 &&& (7 : Int32))), .val (.int ((XT.ushr p1 (3 : Int32)) &&& (7 : Int32))), .val (.ref o1), .val (.ref o6), .val (.ref o57), .unset, .unset, .unset] [(.int (2 : Int32)), (.ref o1)])) _
                                      refine X58.caload hx (j := (2 : Int32)) (v := (.int (f0_2 p1 p2 q3 cz).toUInt32.toUInt16.toUInt32.toInt32)) Ar84.1 (State.isArrayOf_alike hZ.alike Ar84.2.1) Ar84.2.2 hin84 hat84 (g := (mkF m 335 #[.val (.int p1), .val (.int p2), .val (.long q3), .second, .val (.int (p1 &&& (7 : Int32))), .val (.int ((XT.ushr p1 (3 : Int32)) &&& (7 : Int32))), .val (.ref o1), .val (.ref o6), .val (.ref o57), .unset, .unset, .unset] [(.int (2 : Int32)), (.ref o1)])) rfl rfl (hb hby at_335) _ ?_
                                      show Steps p.tables e below (T58.setTop (mkF m 336 #[.val (.int p1), .val (.int p2), .val (.long q3), .second, .val (.int (p1 &&& (7 : Int32))), .val (.int ((XT.ushr p1 (3 : Int32)) &&& (7 : Int32))), .val (.ref o1), .val (.ref o6), .val (.ref o57), .unset, .unset, .unset] [(.int (f0_2 p1 p2 q3 cz).toUInt32.toUInt16.toUInt32.toInt32)])) _
                                      refine XS.bipush X58.here hx rfl (hb hby at_336) ?_
                                      show Steps p.tables e below (T58.setTop (mkF m 338 #[.val (.int p1), .val (.int p2), .val (.long q3), .second, .val (.int (p1 &&& (7 : Int32))), .val (.int ((XT.ushr p1 (3 : Int32)) &&& (7 : Int32))), .val (.ref o1), .val (.ref o6), .val (.ref o57), .unset, .unset, .unset] [(.int (51 : Int32)), (.int (f0_2 p1 p2 q3 cz).toUInt32.toUInt16.toUInt32.toInt32)])) _
                                      refine st89 _ ?_
                                      exact k
                                    · rw [show (f0_12 p1 p2 q3 cz) = (0 : Int32) from if_neg h83] at k
                                      show Steps p.tables e below (T58.setTop (mkF m 329 #[.val (.int p1), .val (.int p2), .val (.long q3), .second, .val (.int (p1 &&& (7 : Int32))), .val (.int ((XT.ushr p1 (3 : Int32)) &&& (7 : Int32))), .val (.ref o1), .val (.ref o6), .val (.ref o57), .unset, .unset, .unset] [(.int (51 : Int32)), (.int (f0_1 p1 p2 q3 cz).toUInt32.toUInt16.toUInt32.toInt32)])) _
                                      refine XS.icmpYes X58.here hx rfl (pc0 := 329) (pc' := 354) rfl (hb hby at_329) rfl (feq h83).2 (by decide) (by decide) ?_
                                      show Steps p.tables e below (T58.setTop (mkF m 354 #[.val (.int p1), .val (.int p2), .val (.long q3), .second, .val (.int (p1 &&& (7 : Int32))), .val (.int ((XT.ushr p1 (3 : Int32)) &&& (7 : Int32))), .val (.ref o1), .val (.ref o6), .val (.ref o57), .unset, .unset, .unset] [])) _
                                      refine XS.iconst X58.here hx rfl (hb hby at_354) ?_
                                      exact k
                                  rw [show (f0_13 p1 p2 q3 cz) = (f0_12 p1 p2 q3 cz) from if_pos h81] at k
                                  show Steps p.tables e below (T58.setTop (mkF m 320 #[.val (.int p1), .val (.int p2), .val (.long q3), .second, .val (.int (p1 &&& (7 : Int32))), .val (.int ((XT.ushr p1 (3 : Int32)) &&& (7 : Int32))), .val (.ref o1), .val (.ref o6), .val (.ref o57), .unset, .unset, .unset] [(.int (52 : Int32)), (.int (f0_0 p1 p2 q3 cz))])) _
                                  refine XS.icmpNo X58.here hx rfl (hb hby at_320) rfl (teq h81).2 ?_
                                  show Steps p.tables e below (T58.setTop (mkF m 323 #[.val (.int p1), .val (.int p2), .val (.long q3), .second, .val (.int (p1 &&& (7 : Int32))), .val (.int ((XT.ushr p1 (3 : Int32)) &&& (7 : Int32))), .val (.ref o1), .val (.ref o6), .val (.ref o57), .unset, .unset, .unset] [])) _
                                  refine XS.aload X58.here hx rfl (hb hby at_323) rfl rfl ?_
                                  show Steps p.tables e below (T58.setTop (mkF m 325 #[.val (.int p1), .val (.int p2), .val (.long q3), .second, .val (.int (p1 &&& (7 : Int32))), .val (.int ((XT.ushr p1 (3 : Int32)) &&& (7 : Int32))), .val (.ref o1), .val (.ref o6), .val (.ref o57), .unset, .unset, .unset] [(.ref o1)])) _
                                  refine XS.iconst X58.here hx rfl (hb hby at_325) ?_
                                  show Steps p.tables e below (T58.setTop (mkF m 326 #[.val (.int p1), .val (.int p2), .val (.long q3), .second, .val (.int (p1 &&& (7 : Int32))), .val (.int ((XT.ushr p1 (3 : Int32)) &&& (7 : Int32))), .val (.ref o1), .val (.ref o6), .val (.ref o57), .unset, .unset, .unset] [(.int (1 : Int32)), (.ref o1)])) _
                                  refine X58.caload hx (j := (1 : Int32)) (v := (.int (f0_1 p1 p2 q3 cz).toUInt32.toUInt16.toUInt32.toInt32)) Ar82.1 (State.isArrayOf_alike hZ.alike Ar82.2.1) Ar82.2.2 hin82 hat82 (g := (mkF m 326 #[.val (.int p1), .val (.int p2), .val (.long q3), .second, .val (.int (p1 &&& (7 : Int32))), .val (.int ((XT.ushr p1 (3 : Int32)) &&& (7 : Int32))), .val (.ref o1), .val (.ref o6), .val (.ref o57), .unset, .unset, .unset] [(.int (1 : Int32)), (.ref o1)])) rfl rfl (hb hby at_326) _ ?_
                                  show Steps p.tables e below (T58.setTop (mkF m 327 #[.val (.int p1), .val (.int p2), .val (.long q3), .second, .val (.int (p1 &&& (7 : Int32))), .val (.int ((XT.ushr p1 (3 : Int32)) &&& (7 : Int32))), .val (.ref o1), .val (.ref o6), .val (.ref o57), .unset, .unset, .unset] [(.int (f0_1 p1 p2 q3 cz).toUInt32.toUInt16.toUInt32.toInt32)])) _
                                  refine XS.bipush X58.here hx rfl (hb hby at_327) ?_
                                  show Steps p.tables e below (T58.setTop (mkF m 329 #[.val (.int p1), .val (.int p2), .val (.long q3), .second, .val (.int (p1 &&& (7 : Int32))), .val (.int ((XT.ushr p1 (3 : Int32)) &&& (7 : Int32))), .val (.ref o1), .val (.ref o6), .val (.ref o57), .unset, .unset, .unset] [(.int (51 : Int32)), (.int (f0_1 p1 p2 q3 cz).toUInt32.toUInt16.toUInt32.toInt32)])) _
                                  refine st90 _ ?_
                                  exact k
                                · rw [show (f0_13 p1 p2 q3 cz) = (0 : Int32) from if_neg h81] at k
                                  show Steps p.tables e below (T58.setTop (mkF m 320 #[.val (.int p1), .val (.int p2), .val (.long q3), .second, .val (.int (p1 &&& (7 : Int32))), .val (.int ((XT.ushr p1 (3 : Int32)) &&& (7 : Int32))), .val (.ref o1), .val (.ref o6), .val (.ref o57), .unset, .unset, .unset] [(.int (52 : Int32)), (.int (f0_0 p1 p2 q3 cz))])) _
                                  refine XS.icmpYes X58.here hx rfl (pc0 := 320) (pc' := 354) rfl (hb hby at_320) rfl (feq h81).2 (by decide) (by decide) ?_
                                  show Steps p.tables e below (T58.setTop (mkF m 354 #[.val (.int p1), .val (.int p2), .val (.long q3), .second, .val (.int (p1 &&& (7 : Int32))), .val (.int ((XT.ushr p1 (3 : Int32)) &&& (7 : Int32))), .val (.ref o1), .val (.ref o6), .val (.ref o57), .unset, .unset, .unset] [])) _
                                  refine XS.iconst X58.here hx rfl (hb hby at_354) ?_
                                  exact k
                              rw [show (f0_15 p1 p2 q3 cz) = (f0_13 p1 p2 q3 cz) from if_neg h64] at k
                              show Steps p.tables e below (T58.setTop (mkF m 302 #[.val (.int p1), .val (.int p2), .val (.long q3), .second, .val (.int (p1 &&& (7 : Int32))), .val (.int ((XT.ushr p1 (3 : Int32)) &&& (7 : Int32))), .val (.ref o1), .val (.ref o6), .val (.ref o57), .unset, .unset, .unset] [(.int (49 : Int32)), (.int (f0_2 p1 p2 q3 cz).toUInt32.toUInt16.toUInt32.toInt32)])) _
                              refine XS.icmpYes X58.here hx rfl (pc0 := 302) (pc' := 314) rfl (hb hby at_302) rfl (feq h64).2 (by decide) (by decide) ?_
                              show Steps p.tables e below (T58.setTop (mkF m 314 #[.val (.int p1), .val (.int p2), .val (.long q3), .second, .val (.int (p1 &&& (7 : Int32))), .val (.int ((XT.ushr p1 (3 : Int32)) &&& (7 : Int32))), .val (.ref o1), .val (.ref o6), .val (.ref o57), .unset, .unset, .unset] [])) _
                              refine XS.aload X58.here hx rfl (hb hby at_314) rfl rfl ?_
                              show Steps p.tables e below (T58.setTop (mkF m 316 #[.val (.int p1), .val (.int p2), .val (.long q3), .second, .val (.int (p1 &&& (7 : Int32))), .val (.int ((XT.ushr p1 (3 : Int32)) &&& (7 : Int32))), .val (.ref o1), .val (.ref o6), .val (.ref o57), .unset, .unset, .unset] [(.ref o1)])) _
                              refine XS.iconst X58.here hx rfl (hb hby at_316) ?_
                              show Steps p.tables e below (T58.setTop (mkF m 317 #[.val (.int p1), .val (.int p2), .val (.long q3), .second, .val (.int (p1 &&& (7 : Int32))), .val (.int ((XT.ushr p1 (3 : Int32)) &&& (7 : Int32))), .val (.ref o1), .val (.ref o6), .val (.ref o57), .unset, .unset, .unset] [(.int (0 : Int32)), (.ref o1)])) _
                              refine X58.caload hx (j := (0 : Int32)) (v := (.int (f0_0 p1 p2 q3 cz))) Ar80.1 (State.isArrayOf_alike hZ.alike Ar80.2.1) Ar80.2.2 hin80 hat80 (g := (mkF m 317 #[.val (.int p1), .val (.int p2), .val (.long q3), .second, .val (.int (p1 &&& (7 : Int32))), .val (.int ((XT.ushr p1 (3 : Int32)) &&& (7 : Int32))), .val (.ref o1), .val (.ref o6), .val (.ref o57), .unset, .unset, .unset] [(.int (0 : Int32)), (.ref o1)])) rfl rfl (hb hby at_317) _ ?_
                              show Steps p.tables e below (T58.setTop (mkF m 318 #[.val (.int p1), .val (.int p2), .val (.long q3), .second, .val (.int (p1 &&& (7 : Int32))), .val (.int ((XT.ushr p1 (3 : Int32)) &&& (7 : Int32))), .val (.ref o1), .val (.ref o6), .val (.ref o57), .unset, .unset, .unset] [(.int (f0_0 p1 p2 q3 cz))])) _
                              refine XS.bipush X58.here hx rfl (hb hby at_318) ?_
                              show Steps p.tables e below (T58.setTop (mkF m 320 #[.val (.int p1), .val (.int p2), .val (.long q3), .second, .val (.int (p1 &&& (7 : Int32))), .val (.int ((XT.ushr p1 (3 : Int32)) &&& (7 : Int32))), .val (.ref o1), .val (.ref o6), .val (.ref o57), .unset, .unset, .unset] [(.int (52 : Int32)), (.int (f0_0 p1 p2 q3 cz))])) _
                              refine st91 _ ?_
                              exact k
                          rw [show (f0_16 p1 p2 q3 cz) = (f0_15 p1 p2 q3 cz) from if_pos h62] at k
                          show Steps p.tables e below (T58.setTop (mkF m 293 #[.val (.int p1), .val (.int p2), .val (.long q3), .second, .val (.int (p1 &&& (7 : Int32))), .val (.int ((XT.ushr p1 (3 : Int32)) &&& (7 : Int32))), .val (.ref o1), .val (.ref o6), .val (.ref o57), .unset, .unset, .unset] [(.int (56 : Int32)), (.int (f0_1 p1 p2 q3 cz).toUInt32.toUInt16.toUInt32.toInt32)])) _
                          refine XS.icmpNo X58.here hx rfl (hb hby at_293) rfl (teq h62).2 ?_
                          show Steps p.tables e below (T58.setTop (mkF m 296 #[.val (.int p1), .val (.int p2), .val (.long q3), .second, .val (.int (p1 &&& (7 : Int32))), .val (.int ((XT.ushr p1 (3 : Int32)) &&& (7 : Int32))), .val (.ref o1), .val (.ref o6), .val (.ref o57), .unset, .unset, .unset] [])) _
                          refine XS.aload X58.here hx rfl (hb hby at_296) rfl rfl ?_
                          show Steps p.tables e below (T58.setTop (mkF m 298 #[.val (.int p1), .val (.int p2), .val (.long q3), .second, .val (.int (p1 &&& (7 : Int32))), .val (.int ((XT.ushr p1 (3 : Int32)) &&& (7 : Int32))), .val (.ref o1), .val (.ref o6), .val (.ref o57), .unset, .unset, .unset] [(.ref o1)])) _
                          refine XS.iconst X58.here hx rfl (hb hby at_298) ?_
                          show Steps p.tables e below (T58.setTop (mkF m 299 #[.val (.int p1), .val (.int p2), .val (.long q3), .second, .val (.int (p1 &&& (7 : Int32))), .val (.int ((XT.ushr p1 (3 : Int32)) &&& (7 : Int32))), .val (.ref o1), .val (.ref o6), .val (.ref o57), .unset, .unset, .unset] [(.int (2 : Int32)), (.ref o1)])) _
                          refine X58.caload hx (j := (2 : Int32)) (v := (.int (f0_2 p1 p2 q3 cz).toUInt32.toUInt16.toUInt32.toInt32)) Ar63.1 (State.isArrayOf_alike hZ.alike Ar63.2.1) Ar63.2.2 hin63 hat63 (g := (mkF m 299 #[.val (.int p1), .val (.int p2), .val (.long q3), .second, .val (.int (p1 &&& (7 : Int32))), .val (.int ((XT.ushr p1 (3 : Int32)) &&& (7 : Int32))), .val (.ref o1), .val (.ref o6), .val (.ref o57), .unset, .unset, .unset] [(.int (2 : Int32)), (.ref o1)])) rfl rfl (hb hby at_299) _ ?_
                          show Steps p.tables e below (T58.setTop (mkF m 300 #[.val (.int p1), .val (.int p2), .val (.long q3), .second, .val (.int (p1 &&& (7 : Int32))), .val (.int ((XT.ushr p1 (3 : Int32)) &&& (7 : Int32))), .val (.ref o1), .val (.ref o6), .val (.ref o57), .unset, .unset, .unset] [(.int (f0_2 p1 p2 q3 cz).toUInt32.toUInt16.toUInt32.toInt32)])) _
                          refine XS.bipush X58.here hx rfl (hb hby at_300) ?_
                          show Steps p.tables e below (T58.setTop (mkF m 302 #[.val (.int p1), .val (.int p2), .val (.long q3), .second, .val (.int (p1 &&& (7 : Int32))), .val (.int ((XT.ushr p1 (3 : Int32)) &&& (7 : Int32))), .val (.ref o1), .val (.ref o6), .val (.ref o57), .unset, .unset, .unset] [(.int (49 : Int32)), (.int (f0_2 p1 p2 q3 cz).toUInt32.toUInt16.toUInt32.toInt32)])) _
                          refine st92 _ ?_
                          exact k
                        · obtain ⟨cl93, Ar93, -, S93, M93, H93, -⟩ := id u58_0
                          have hin93 := inb_of (j := (0 : Int32)) S93 (by decide)
                          have hat93 := H93.at hin93 (v := (.int (f0_0 p1 p2 q3 cz))) (rfl)
                          have st104 : ∀ t, Steps p.tables e below (T58.setTop (mkF m 355 #[.val (.int p1), .val (.int p2), .val (.long q3), .second, .val (.int (p1 &&& (7 : Int32))), .val (.int ((XT.ushr p1 (3 : Int32)) &&& (7 : Int32))), .val (.ref o1), .val (.ref o6), .val (.ref o57), .unset, .unset, .unset] [(.int (f0_13 p1 p2 q3 cz))])) t → Steps p.tables e below (T58.setTop (mkF m 320 #[.val (.int p1), .val (.int p2), .val (.long q3), .second, .val (.int (p1 &&& (7 : Int32))), .val (.int ((XT.ushr p1 (3 : Int32)) &&& (7 : Int32))), .val (.ref o1), .val (.ref o6), .val (.ref o57), .unset, .unset, .unset] [(.int (52 : Int32)), (.int (f0_0 p1 p2 q3 cz))])) t := by
                            intro t k
                            by_cases h94 : (f0_0 p1 p2 q3 cz) = (52 : Int32)
                            · obtain ⟨cl95, Ar95, -, S95, M95, H95, -⟩ := id u58_0
                              have hin95 := inb_of (j := (1 : Int32)) S95 (by decide)
                              have hat95 := H95.at hin95 (v := (.int (f0_1 p1 p2 q3 cz).toUInt32.toUInt16.toUInt32.toInt32)) (rfl)
                              have st103 : ∀ t, Steps p.tables e below (T58.setTop (mkF m 355 #[.val (.int p1), .val (.int p2), .val (.long q3), .second, .val (.int (p1 &&& (7 : Int32))), .val (.int ((XT.ushr p1 (3 : Int32)) &&& (7 : Int32))), .val (.ref o1), .val (.ref o6), .val (.ref o57), .unset, .unset, .unset] [(.int (f0_12 p1 p2 q3 cz))])) t → Steps p.tables e below (T58.setTop (mkF m 329 #[.val (.int p1), .val (.int p2), .val (.long q3), .second, .val (.int (p1 &&& (7 : Int32))), .val (.int ((XT.ushr p1 (3 : Int32)) &&& (7 : Int32))), .val (.ref o1), .val (.ref o6), .val (.ref o57), .unset, .unset, .unset] [(.int (51 : Int32)), (.int (f0_1 p1 p2 q3 cz).toUInt32.toUInt16.toUInt32.toInt32)])) t := by
                                intro t k
                                by_cases h96 : (f0_1 p1 p2 q3 cz).toUInt32.toUInt16.toUInt32.toInt32 = (51 : Int32)
                                · obtain ⟨cl97, Ar97, -, S97, M97, H97, -⟩ := id u58_0
                                  have hin97 := inb_of (j := (2 : Int32)) S97 (by decide)
                                  have hat97 := H97.at hin97 (v := (.int (f0_2 p1 p2 q3 cz).toUInt32.toUInt16.toUInt32.toInt32)) (rfl)
                                  have st102 : ∀ t, Steps p.tables e below (T58.setTop (mkF m 355 #[.val (.int p1), .val (.int p2), .val (.long q3), .second, .val (.int (p1 &&& (7 : Int32))), .val (.int ((XT.ushr p1 (3 : Int32)) &&& (7 : Int32))), .val (.ref o1), .val (.ref o6), .val (.ref o57), .unset, .unset, .unset] [(.int (f0_11 p1 p2 q3 cz))])) t → Steps p.tables e below (T58.setTop (mkF m 338 #[.val (.int p1), .val (.int p2), .val (.long q3), .second, .val (.int (p1 &&& (7 : Int32))), .val (.int ((XT.ushr p1 (3 : Int32)) &&& (7 : Int32))), .val (.ref o1), .val (.ref o6), .val (.ref o57), .unset, .unset, .unset] [(.int (51 : Int32)), (.int (f0_2 p1 p2 q3 cz).toUInt32.toUInt16.toUInt32.toInt32)])) t := by
                                    intro t k
                                    by_cases h98 : (f0_2 p1 p2 q3 cz).toUInt32.toUInt16.toUInt32.toInt32 = (51 : Int32)
                                    · obtain ⟨cl99, Ar99, -, S99, M99, H99, -⟩ := id u58_0
                                      have hin99 := inb_of (j := (3 : Int32)) S99 (by decide)
                                      have hat99 := H99.at hin99 (v := (.int (f0_3 p1 p2 q3 cz).toUInt32.toUInt16.toUInt32.toInt32)) (rfl)
                                      have st101 : ∀ t, Steps p.tables e below (T58.setTop (mkF m 355 #[.val (.int p1), .val (.int p2), .val (.long q3), .second, .val (.int (p1 &&& (7 : Int32))), .val (.int ((XT.ushr p1 (3 : Int32)) &&& (7 : Int32))), .val (.ref o1), .val (.ref o6), .val (.ref o57), .unset, .unset, .unset] [(.int (f0_10 p1 p2 q3 cz))])) t → Steps p.tables e below (T58.setTop (mkF m 347 #[.val (.int p1), .val (.int p2), .val (.long q3), .second, .val (.int (p1 &&& (7 : Int32))), .val (.int ((XT.ushr p1 (3 : Int32)) &&& (7 : Int32))), .val (.ref o1), .val (.ref o6), .val (.ref o57), .unset, .unset, .unset] [(.int (55 : Int32)), (.int (f0_3 p1 p2 q3 cz).toUInt32.toUInt16.toUInt32.toInt32)])) t := by
                                        intro t k
                                        by_cases h100 : (f0_3 p1 p2 q3 cz).toUInt32.toUInt16.toUInt32.toInt32 = (55 : Int32)
                                        · rw [show (f0_10 p1 p2 q3 cz) = (1 : Int32) from if_pos h100] at k
                                          show Steps p.tables e below (T58.setTop (mkF m 347 #[.val (.int p1), .val (.int p2), .val (.long q3), .second, .val (.int (p1 &&& (7 : Int32))), .val (.int ((XT.ushr p1 (3 : Int32)) &&& (7 : Int32))), .val (.ref o1), .val (.ref o6), .val (.ref o57), .unset, .unset, .unset] [(.int (55 : Int32)), (.int (f0_3 p1 p2 q3 cz).toUInt32.toUInt16.toUInt32.toInt32)])) _
                                          refine XS.icmpNo X58.here hx rfl (hb hby at_347) rfl (teq h100).2 ?_
                                          show Steps p.tables e below (T58.setTop (mkF m 350 #[.val (.int p1), .val (.int p2), .val (.long q3), .second, .val (.int (p1 &&& (7 : Int32))), .val (.int ((XT.ushr p1 (3 : Int32)) &&& (7 : Int32))), .val (.ref o1), .val (.ref o6), .val (.ref o57), .unset, .unset, .unset] [])) _
                                          refine XS.iconst X58.here hx rfl (hb hby at_350) ?_
                                          show Steps p.tables e below (T58.setTop (mkF m 351 #[.val (.int p1), .val (.int p2), .val (.long q3), .second, .val (.int (p1 &&& (7 : Int32))), .val (.int ((XT.ushr p1 (3 : Int32)) &&& (7 : Int32))), .val (.ref o1), .val (.ref o6), .val (.ref o57), .unset, .unset, .unset] [(.int (1 : Int32))])) _
                                          refine XS.goto X58.here hx rfl (pc0 := 351) (pc' := 355) rfl (hb hby at_351) (by decide) (by decide) ?_
                                          exact k
                                        · rw [show (f0_10 p1 p2 q3 cz) = (0 : Int32) from if_neg h100] at k
                                          show Steps p.tables e below (T58.setTop (mkF m 347 #[.val (.int p1), .val (.int p2), .val (.long q3), .second, .val (.int (p1 &&& (7 : Int32))), .val (.int ((XT.ushr p1 (3 : Int32)) &&& (7 : Int32))), .val (.ref o1), .val (.ref o6), .val (.ref o57), .unset, .unset, .unset] [(.int (55 : Int32)), (.int (f0_3 p1 p2 q3 cz).toUInt32.toUInt16.toUInt32.toInt32)])) _
                                          refine XS.icmpYes X58.here hx rfl (pc0 := 347) (pc' := 354) rfl (hb hby at_347) rfl (feq h100).2 (by decide) (by decide) ?_
                                          show Steps p.tables e below (T58.setTop (mkF m 354 #[.val (.int p1), .val (.int p2), .val (.long q3), .second, .val (.int (p1 &&& (7 : Int32))), .val (.int ((XT.ushr p1 (3 : Int32)) &&& (7 : Int32))), .val (.ref o1), .val (.ref o6), .val (.ref o57), .unset, .unset, .unset] [])) _
                                          refine XS.iconst X58.here hx rfl (hb hby at_354) ?_
                                          exact k
                                      rw [show (f0_11 p1 p2 q3 cz) = (f0_10 p1 p2 q3 cz) from if_pos h98] at k
                                      show Steps p.tables e below (T58.setTop (mkF m 338 #[.val (.int p1), .val (.int p2), .val (.long q3), .second, .val (.int (p1 &&& (7 : Int32))), .val (.int ((XT.ushr p1 (3 : Int32)) &&& (7 : Int32))), .val (.ref o1), .val (.ref o6), .val (.ref o57), .unset, .unset, .unset] [(.int (51 : Int32)), (.int (f0_2 p1 p2 q3 cz).toUInt32.toUInt16.toUInt32.toInt32)])) _
                                      refine XS.icmpNo X58.here hx rfl (hb hby at_338) rfl (teq h98).2 ?_
                                      show Steps p.tables e below (T58.setTop (mkF m 341 #[.val (.int p1), .val (.int p2), .val (.long q3), .second, .val (.int (p1 &&& (7 : Int32))), .val (.int ((XT.ushr p1 (3 : Int32)) &&& (7 : Int32))), .val (.ref o1), .val (.ref o6), .val (.ref o57), .unset, .unset, .unset] [])) _
                                      refine XS.aload X58.here hx rfl (hb hby at_341) rfl rfl ?_
                                      show Steps p.tables e below (T58.setTop (mkF m 343 #[.val (.int p1), .val (.int p2), .val (.long q3), .second, .val (.int (p1 &&& (7 : Int32))), .val (.int ((XT.ushr p1 (3 : Int32)) &&& (7 : Int32))), .val (.ref o1), .val (.ref o6), .val (.ref o57), .unset, .unset, .unset] [(.ref o1)])) _
                                      refine XS.iconst X58.here hx rfl (hb hby at_343) ?_
                                      show Steps p.tables e below (T58.setTop (mkF m 344 #[.val (.int p1), .val (.int p2), .val (.long q3), .second, .val (.int (p1 &&& (7 : Int32))), .val (.int ((XT.ushr p1 (3 : Int32)) &&& (7 : Int32))), .val (.ref o1), .val (.ref o6), .val (.ref o57), .unset, .unset, .unset] [(.int (3 : Int32)), (.ref o1)])) _
                                      refine X58.caload hx (j := (3 : Int32)) (v := (.int (f0_3 p1 p2 q3 cz).toUInt32.toUInt16.toUInt32.toInt32)) Ar99.1 (State.isArrayOf_alike hZ.alike Ar99.2.1) Ar99.2.2 hin99 hat99 (g := (mkF m 344 #[.val (.int p1), .val (.int p2), .val (.long q3), .second, .val (.int (p1 &&& (7 : Int32))), .val (.int ((XT.ushr p1 (3 : Int32)) &&& (7 : Int32))), .val (.ref o1), .val (.ref o6), .val (.ref o57), .unset, .unset, .unset] [(.int (3 : Int32)), (.ref o1)])) rfl rfl (hb hby at_344) _ ?_
                                      show Steps p.tables e below (T58.setTop (mkF m 345 #[.val (.int p1), .val (.int p2), .val (.long q3), .second, .val (.int (p1 &&& (7 : Int32))), .val (.int ((XT.ushr p1 (3 : Int32)) &&& (7 : Int32))), .val (.ref o1), .val (.ref o6), .val (.ref o57), .unset, .unset, .unset] [(.int (f0_3 p1 p2 q3 cz).toUInt32.toUInt16.toUInt32.toInt32)])) _
                                      refine XS.bipush X58.here hx rfl (hb hby at_345) ?_
                                      show Steps p.tables e below (T58.setTop (mkF m 347 #[.val (.int p1), .val (.int p2), .val (.long q3), .second, .val (.int (p1 &&& (7 : Int32))), .val (.int ((XT.ushr p1 (3 : Int32)) &&& (7 : Int32))), .val (.ref o1), .val (.ref o6), .val (.ref o57), .unset, .unset, .unset] [(.int (55 : Int32)), (.int (f0_3 p1 p2 q3 cz).toUInt32.toUInt16.toUInt32.toInt32)])) _
                                      refine st101 _ ?_
                                      exact k
                                    · rw [show (f0_11 p1 p2 q3 cz) = (0 : Int32) from if_neg h98] at k
                                      show Steps p.tables e below (T58.setTop (mkF m 338 #[.val (.int p1), .val (.int p2), .val (.long q3), .second, .val (.int (p1 &&& (7 : Int32))), .val (.int ((XT.ushr p1 (3 : Int32)) &&& (7 : Int32))), .val (.ref o1), .val (.ref o6), .val (.ref o57), .unset, .unset, .unset] [(.int (51 : Int32)), (.int (f0_2 p1 p2 q3 cz).toUInt32.toUInt16.toUInt32.toInt32)])) _
                                      refine XS.icmpYes X58.here hx rfl (pc0 := 338) (pc' := 354) rfl (hb hby at_338) rfl (feq h98).2 (by decide) (by decide) ?_
                                      show Steps p.tables e below (T58.setTop (mkF m 354 #[.val (.int p1), .val (.int p2), .val (.long q3), .second, .val (.int (p1 &&& (7 : Int32))), .val (.int ((XT.ushr p1 (3 : Int32)) &&& (7 : Int32))), .val (.ref o1), .val (.ref o6), .val (.ref o57), .unset, .unset, .unset] [])) _
                                      refine XS.iconst X58.here hx rfl (hb hby at_354) ?_
                                      exact k
                                  rw [show (f0_12 p1 p2 q3 cz) = (f0_11 p1 p2 q3 cz) from if_pos h96] at k
                                  show Steps p.tables e below (T58.setTop (mkF m 329 #[.val (.int p1), .val (.int p2), .val (.long q3), .second, .val (.int (p1 &&& (7 : Int32))), .val (.int ((XT.ushr p1 (3 : Int32)) &&& (7 : Int32))), .val (.ref o1), .val (.ref o6), .val (.ref o57), .unset, .unset, .unset] [(.int (51 : Int32)), (.int (f0_1 p1 p2 q3 cz).toUInt32.toUInt16.toUInt32.toInt32)])) _
                                  refine XS.icmpNo X58.here hx rfl (hb hby at_329) rfl (teq h96).2 ?_
                                  show Steps p.tables e below (T58.setTop (mkF m 332 #[.val (.int p1), .val (.int p2), .val (.long q3), .second, .val (.int (p1 &&& (7 : Int32))), .val (.int ((XT.ushr p1 (3 : Int32)) &&& (7 : Int32))), .val (.ref o1), .val (.ref o6), .val (.ref o57), .unset, .unset, .unset] [])) _
                                  refine XS.aload X58.here hx rfl (hb hby at_332) rfl rfl ?_
                                  show Steps p.tables e below (T58.setTop (mkF m 334 #[.val (.int p1), .val (.int p2), .val (.long q3), .second, .val (.int (p1 &&& (7 : Int32))), .val (.int ((XT.ushr p1 (3 : Int32)) &&& (7 : Int32))), .val (.ref o1), .val (.ref o6), .val (.ref o57), .unset, .unset, .unset] [(.ref o1)])) _
                                  refine XS.iconst X58.here hx rfl (hb hby at_334) ?_
                                  show Steps p.tables e below (T58.setTop (mkF m 335 #[.val (.int p1), .val (.int p2), .val (.long q3), .second, .val (.int (p1 &&& (7 : Int32))), .val (.int ((XT.ushr p1 (3 : Int32)) &&& (7 : Int32))), .val (.ref o1), .val (.ref o6), .val (.ref o57), .unset, .unset, .unset] [(.int (2 : Int32)), (.ref o1)])) _
                                  refine X58.caload hx (j := (2 : Int32)) (v := (.int (f0_2 p1 p2 q3 cz).toUInt32.toUInt16.toUInt32.toInt32)) Ar97.1 (State.isArrayOf_alike hZ.alike Ar97.2.1) Ar97.2.2 hin97 hat97 (g := (mkF m 335 #[.val (.int p1), .val (.int p2), .val (.long q3), .second, .val (.int (p1 &&& (7 : Int32))), .val (.int ((XT.ushr p1 (3 : Int32)) &&& (7 : Int32))), .val (.ref o1), .val (.ref o6), .val (.ref o57), .unset, .unset, .unset] [(.int (2 : Int32)), (.ref o1)])) rfl rfl (hb hby at_335) _ ?_
                                  show Steps p.tables e below (T58.setTop (mkF m 336 #[.val (.int p1), .val (.int p2), .val (.long q3), .second, .val (.int (p1 &&& (7 : Int32))), .val (.int ((XT.ushr p1 (3 : Int32)) &&& (7 : Int32))), .val (.ref o1), .val (.ref o6), .val (.ref o57), .unset, .unset, .unset] [(.int (f0_2 p1 p2 q3 cz).toUInt32.toUInt16.toUInt32.toInt32)])) _
                                  refine XS.bipush X58.here hx rfl (hb hby at_336) ?_
                                  show Steps p.tables e below (T58.setTop (mkF m 338 #[.val (.int p1), .val (.int p2), .val (.long q3), .second, .val (.int (p1 &&& (7 : Int32))), .val (.int ((XT.ushr p1 (3 : Int32)) &&& (7 : Int32))), .val (.ref o1), .val (.ref o6), .val (.ref o57), .unset, .unset, .unset] [(.int (51 : Int32)), (.int (f0_2 p1 p2 q3 cz).toUInt32.toUInt16.toUInt32.toInt32)])) _
                                  refine st102 _ ?_
                                  exact k
                                · rw [show (f0_12 p1 p2 q3 cz) = (0 : Int32) from if_neg h96] at k
                                  show Steps p.tables e below (T58.setTop (mkF m 329 #[.val (.int p1), .val (.int p2), .val (.long q3), .second, .val (.int (p1 &&& (7 : Int32))), .val (.int ((XT.ushr p1 (3 : Int32)) &&& (7 : Int32))), .val (.ref o1), .val (.ref o6), .val (.ref o57), .unset, .unset, .unset] [(.int (51 : Int32)), (.int (f0_1 p1 p2 q3 cz).toUInt32.toUInt16.toUInt32.toInt32)])) _
                                  refine XS.icmpYes X58.here hx rfl (pc0 := 329) (pc' := 354) rfl (hb hby at_329) rfl (feq h96).2 (by decide) (by decide) ?_
                                  show Steps p.tables e below (T58.setTop (mkF m 354 #[.val (.int p1), .val (.int p2), .val (.long q3), .second, .val (.int (p1 &&& (7 : Int32))), .val (.int ((XT.ushr p1 (3 : Int32)) &&& (7 : Int32))), .val (.ref o1), .val (.ref o6), .val (.ref o57), .unset, .unset, .unset] [])) _
                                  refine XS.iconst X58.here hx rfl (hb hby at_354) ?_
                                  exact k
                              rw [show (f0_13 p1 p2 q3 cz) = (f0_12 p1 p2 q3 cz) from if_pos h94] at k
                              show Steps p.tables e below (T58.setTop (mkF m 320 #[.val (.int p1), .val (.int p2), .val (.long q3), .second, .val (.int (p1 &&& (7 : Int32))), .val (.int ((XT.ushr p1 (3 : Int32)) &&& (7 : Int32))), .val (.ref o1), .val (.ref o6), .val (.ref o57), .unset, .unset, .unset] [(.int (52 : Int32)), (.int (f0_0 p1 p2 q3 cz))])) _
                              refine XS.icmpNo X58.here hx rfl (hb hby at_320) rfl (teq h94).2 ?_
                              show Steps p.tables e below (T58.setTop (mkF m 323 #[.val (.int p1), .val (.int p2), .val (.long q3), .second, .val (.int (p1 &&& (7 : Int32))), .val (.int ((XT.ushr p1 (3 : Int32)) &&& (7 : Int32))), .val (.ref o1), .val (.ref o6), .val (.ref o57), .unset, .unset, .unset] [])) _
                              refine XS.aload X58.here hx rfl (hb hby at_323) rfl rfl ?_
                              show Steps p.tables e below (T58.setTop (mkF m 325 #[.val (.int p1), .val (.int p2), .val (.long q3), .second, .val (.int (p1 &&& (7 : Int32))), .val (.int ((XT.ushr p1 (3 : Int32)) &&& (7 : Int32))), .val (.ref o1), .val (.ref o6), .val (.ref o57), .unset, .unset, .unset] [(.ref o1)])) _
                              refine XS.iconst X58.here hx rfl (hb hby at_325) ?_
                              show Steps p.tables e below (T58.setTop (mkF m 326 #[.val (.int p1), .val (.int p2), .val (.long q3), .second, .val (.int (p1 &&& (7 : Int32))), .val (.int ((XT.ushr p1 (3 : Int32)) &&& (7 : Int32))), .val (.ref o1), .val (.ref o6), .val (.ref o57), .unset, .unset, .unset] [(.int (1 : Int32)), (.ref o1)])) _
                              refine X58.caload hx (j := (1 : Int32)) (v := (.int (f0_1 p1 p2 q3 cz).toUInt32.toUInt16.toUInt32.toInt32)) Ar95.1 (State.isArrayOf_alike hZ.alike Ar95.2.1) Ar95.2.2 hin95 hat95 (g := (mkF m 326 #[.val (.int p1), .val (.int p2), .val (.long q3), .second, .val (.int (p1 &&& (7 : Int32))), .val (.int ((XT.ushr p1 (3 : Int32)) &&& (7 : Int32))), .val (.ref o1), .val (.ref o6), .val (.ref o57), .unset, .unset, .unset] [(.int (1 : Int32)), (.ref o1)])) rfl rfl (hb hby at_326) _ ?_
                              show Steps p.tables e below (T58.setTop (mkF m 327 #[.val (.int p1), .val (.int p2), .val (.long q3), .second, .val (.int (p1 &&& (7 : Int32))), .val (.int ((XT.ushr p1 (3 : Int32)) &&& (7 : Int32))), .val (.ref o1), .val (.ref o6), .val (.ref o57), .unset, .unset, .unset] [(.int (f0_1 p1 p2 q3 cz).toUInt32.toUInt16.toUInt32.toInt32)])) _
                              refine XS.bipush X58.here hx rfl (hb hby at_327) ?_
                              show Steps p.tables e below (T58.setTop (mkF m 329 #[.val (.int p1), .val (.int p2), .val (.long q3), .second, .val (.int (p1 &&& (7 : Int32))), .val (.int ((XT.ushr p1 (3 : Int32)) &&& (7 : Int32))), .val (.ref o1), .val (.ref o6), .val (.ref o57), .unset, .unset, .unset] [(.int (51 : Int32)), (.int (f0_1 p1 p2 q3 cz).toUInt32.toUInt16.toUInt32.toInt32)])) _
                              refine st103 _ ?_
                              exact k
                            · rw [show (f0_13 p1 p2 q3 cz) = (0 : Int32) from if_neg h94] at k
                              show Steps p.tables e below (T58.setTop (mkF m 320 #[.val (.int p1), .val (.int p2), .val (.long q3), .second, .val (.int (p1 &&& (7 : Int32))), .val (.int ((XT.ushr p1 (3 : Int32)) &&& (7 : Int32))), .val (.ref o1), .val (.ref o6), .val (.ref o57), .unset, .unset, .unset] [(.int (52 : Int32)), (.int (f0_0 p1 p2 q3 cz))])) _
                              refine XS.icmpYes X58.here hx rfl (pc0 := 320) (pc' := 354) rfl (hb hby at_320) rfl (feq h94).2 (by decide) (by decide) ?_
                              show Steps p.tables e below (T58.setTop (mkF m 354 #[.val (.int p1), .val (.int p2), .val (.long q3), .second, .val (.int (p1 &&& (7 : Int32))), .val (.int ((XT.ushr p1 (3 : Int32)) &&& (7 : Int32))), .val (.ref o1), .val (.ref o6), .val (.ref o57), .unset, .unset, .unset] [])) _
                              refine XS.iconst X58.here hx rfl (hb hby at_354) ?_
                              exact k
                          rw [show (f0_16 p1 p2 q3 cz) = (f0_13 p1 p2 q3 cz) from if_neg h62] at k
                          show Steps p.tables e below (T58.setTop (mkF m 293 #[.val (.int p1), .val (.int p2), .val (.long q3), .second, .val (.int (p1 &&& (7 : Int32))), .val (.int ((XT.ushr p1 (3 : Int32)) &&& (7 : Int32))), .val (.ref o1), .val (.ref o6), .val (.ref o57), .unset, .unset, .unset] [(.int (56 : Int32)), (.int (f0_1 p1 p2 q3 cz).toUInt32.toUInt16.toUInt32.toInt32)])) _
                          refine XS.icmpYes X58.here hx rfl (pc0 := 293) (pc' := 314) rfl (hb hby at_293) rfl (feq h62).2 (by decide) (by decide) ?_
                          show Steps p.tables e below (T58.setTop (mkF m 314 #[.val (.int p1), .val (.int p2), .val (.long q3), .second, .val (.int (p1 &&& (7 : Int32))), .val (.int ((XT.ushr p1 (3 : Int32)) &&& (7 : Int32))), .val (.ref o1), .val (.ref o6), .val (.ref o57), .unset, .unset, .unset] [])) _
                          refine XS.aload X58.here hx rfl (hb hby at_314) rfl rfl ?_
                          show Steps p.tables e below (T58.setTop (mkF m 316 #[.val (.int p1), .val (.int p2), .val (.long q3), .second, .val (.int (p1 &&& (7 : Int32))), .val (.int ((XT.ushr p1 (3 : Int32)) &&& (7 : Int32))), .val (.ref o1), .val (.ref o6), .val (.ref o57), .unset, .unset, .unset] [(.ref o1)])) _
                          refine XS.iconst X58.here hx rfl (hb hby at_316) ?_
                          show Steps p.tables e below (T58.setTop (mkF m 317 #[.val (.int p1), .val (.int p2), .val (.long q3), .second, .val (.int (p1 &&& (7 : Int32))), .val (.int ((XT.ushr p1 (3 : Int32)) &&& (7 : Int32))), .val (.ref o1), .val (.ref o6), .val (.ref o57), .unset, .unset, .unset] [(.int (0 : Int32)), (.ref o1)])) _
                          refine X58.caload hx (j := (0 : Int32)) (v := (.int (f0_0 p1 p2 q3 cz))) Ar93.1 (State.isArrayOf_alike hZ.alike Ar93.2.1) Ar93.2.2 hin93 hat93 (g := (mkF m 317 #[.val (.int p1), .val (.int p2), .val (.long q3), .second, .val (.int (p1 &&& (7 : Int32))), .val (.int ((XT.ushr p1 (3 : Int32)) &&& (7 : Int32))), .val (.ref o1), .val (.ref o6), .val (.ref o57), .unset, .unset, .unset] [(.int (0 : Int32)), (.ref o1)])) rfl rfl (hb hby at_317) _ ?_
                          show Steps p.tables e below (T58.setTop (mkF m 318 #[.val (.int p1), .val (.int p2), .val (.long q3), .second, .val (.int (p1 &&& (7 : Int32))), .val (.int ((XT.ushr p1 (3 : Int32)) &&& (7 : Int32))), .val (.ref o1), .val (.ref o6), .val (.ref o57), .unset, .unset, .unset] [(.int (f0_0 p1 p2 q3 cz))])) _
                          refine XS.bipush X58.here hx rfl (hb hby at_318) ?_
                          show Steps p.tables e below (T58.setTop (mkF m 320 #[.val (.int p1), .val (.int p2), .val (.long q3), .second, .val (.int (p1 &&& (7 : Int32))), .val (.int ((XT.ushr p1 (3 : Int32)) &&& (7 : Int32))), .val (.ref o1), .val (.ref o6), .val (.ref o57), .unset, .unset, .unset] [(.int (52 : Int32)), (.int (f0_0 p1 p2 q3 cz))])) _
                          refine st104 _ ?_
                          exact k
                      rw [show (f0_17 p1 p2 q3 cz) = (f0_16 p1 p2 q3 cz) from if_pos h60] at k
                      show Steps p.tables e below (T58.setTop (mkF m 284 #[.val (.int p1), .val (.int p2), .val (.long q3), .second, .val (.int (p1 &&& (7 : Int32))), .val (.int ((XT.ushr p1 (3 : Int32)) &&& (7 : Int32))), .val (.ref o1), .val (.ref o6), .val (.ref o57), .unset, .unset, .unset] [(.int (49 : Int32)), (.int (f0_0 p1 p2 q3 cz))])) _
                      refine XS.icmpNo X58.here hx rfl (hb hby at_284) rfl (teq h60).2 ?_
                      show Steps p.tables e below (T58.setTop (mkF m 287 #[.val (.int p1), .val (.int p2), .val (.long q3), .second, .val (.int (p1 &&& (7 : Int32))), .val (.int ((XT.ushr p1 (3 : Int32)) &&& (7 : Int32))), .val (.ref o1), .val (.ref o6), .val (.ref o57), .unset, .unset, .unset] [])) _
                      refine XS.aload X58.here hx rfl (hb hby at_287) rfl rfl ?_
                      show Steps p.tables e below (T58.setTop (mkF m 289 #[.val (.int p1), .val (.int p2), .val (.long q3), .second, .val (.int (p1 &&& (7 : Int32))), .val (.int ((XT.ushr p1 (3 : Int32)) &&& (7 : Int32))), .val (.ref o1), .val (.ref o6), .val (.ref o57), .unset, .unset, .unset] [(.ref o1)])) _
                      refine XS.iconst X58.here hx rfl (hb hby at_289) ?_
                      show Steps p.tables e below (T58.setTop (mkF m 290 #[.val (.int p1), .val (.int p2), .val (.long q3), .second, .val (.int (p1 &&& (7 : Int32))), .val (.int ((XT.ushr p1 (3 : Int32)) &&& (7 : Int32))), .val (.ref o1), .val (.ref o6), .val (.ref o57), .unset, .unset, .unset] [(.int (1 : Int32)), (.ref o1)])) _
                      refine X58.caload hx (j := (1 : Int32)) (v := (.int (f0_1 p1 p2 q3 cz).toUInt32.toUInt16.toUInt32.toInt32)) Ar61.1 (State.isArrayOf_alike hZ.alike Ar61.2.1) Ar61.2.2 hin61 hat61 (g := (mkF m 290 #[.val (.int p1), .val (.int p2), .val (.long q3), .second, .val (.int (p1 &&& (7 : Int32))), .val (.int ((XT.ushr p1 (3 : Int32)) &&& (7 : Int32))), .val (.ref o1), .val (.ref o6), .val (.ref o57), .unset, .unset, .unset] [(.int (1 : Int32)), (.ref o1)])) rfl rfl (hb hby at_290) _ ?_
                      show Steps p.tables e below (T58.setTop (mkF m 291 #[.val (.int p1), .val (.int p2), .val (.long q3), .second, .val (.int (p1 &&& (7 : Int32))), .val (.int ((XT.ushr p1 (3 : Int32)) &&& (7 : Int32))), .val (.ref o1), .val (.ref o6), .val (.ref o57), .unset, .unset, .unset] [(.int (f0_1 p1 p2 q3 cz).toUInt32.toUInt16.toUInt32.toInt32)])) _
                      refine XS.bipush X58.here hx rfl (hb hby at_291) ?_
                      show Steps p.tables e below (T58.setTop (mkF m 293 #[.val (.int p1), .val (.int p2), .val (.long q3), .second, .val (.int (p1 &&& (7 : Int32))), .val (.int ((XT.ushr p1 (3 : Int32)) &&& (7 : Int32))), .val (.ref o1), .val (.ref o6), .val (.ref o57), .unset, .unset, .unset] [(.int (56 : Int32)), (.int (f0_1 p1 p2 q3 cz).toUInt32.toUInt16.toUInt32.toInt32)])) _
                      refine st105 _ ?_
                      exact k
                    · obtain ⟨cl106, Ar106, -, S106, M106, H106, -⟩ := id u58_0
                      have hin106 := inb_of (j := (0 : Int32)) S106 (by decide)
                      have hat106 := H106.at hin106 (v := (.int (f0_0 p1 p2 q3 cz))) (rfl)
                      have st117 : ∀ t, Steps p.tables e below (T58.setTop (mkF m 355 #[.val (.int p1), .val (.int p2), .val (.long q3), .second, .val (.int (p1 &&& (7 : Int32))), .val (.int ((XT.ushr p1 (3 : Int32)) &&& (7 : Int32))), .val (.ref o1), .val (.ref o6), .val (.ref o57), .unset, .unset, .unset] [(.int (f0_13 p1 p2 q3 cz))])) t → Steps p.tables e below (T58.setTop (mkF m 320 #[.val (.int p1), .val (.int p2), .val (.long q3), .second, .val (.int (p1 &&& (7 : Int32))), .val (.int ((XT.ushr p1 (3 : Int32)) &&& (7 : Int32))), .val (.ref o1), .val (.ref o6), .val (.ref o57), .unset, .unset, .unset] [(.int (52 : Int32)), (.int (f0_0 p1 p2 q3 cz))])) t := by
                        intro t k
                        by_cases h107 : (f0_0 p1 p2 q3 cz) = (52 : Int32)
                        · obtain ⟨cl108, Ar108, -, S108, M108, H108, -⟩ := id u58_0
                          have hin108 := inb_of (j := (1 : Int32)) S108 (by decide)
                          have hat108 := H108.at hin108 (v := (.int (f0_1 p1 p2 q3 cz).toUInt32.toUInt16.toUInt32.toInt32)) (rfl)
                          have st116 : ∀ t, Steps p.tables e below (T58.setTop (mkF m 355 #[.val (.int p1), .val (.int p2), .val (.long q3), .second, .val (.int (p1 &&& (7 : Int32))), .val (.int ((XT.ushr p1 (3 : Int32)) &&& (7 : Int32))), .val (.ref o1), .val (.ref o6), .val (.ref o57), .unset, .unset, .unset] [(.int (f0_12 p1 p2 q3 cz))])) t → Steps p.tables e below (T58.setTop (mkF m 329 #[.val (.int p1), .val (.int p2), .val (.long q3), .second, .val (.int (p1 &&& (7 : Int32))), .val (.int ((XT.ushr p1 (3 : Int32)) &&& (7 : Int32))), .val (.ref o1), .val (.ref o6), .val (.ref o57), .unset, .unset, .unset] [(.int (51 : Int32)), (.int (f0_1 p1 p2 q3 cz).toUInt32.toUInt16.toUInt32.toInt32)])) t := by
                            intro t k
                            by_cases h109 : (f0_1 p1 p2 q3 cz).toUInt32.toUInt16.toUInt32.toInt32 = (51 : Int32)
                            · obtain ⟨cl110, Ar110, -, S110, M110, H110, -⟩ := id u58_0
                              have hin110 := inb_of (j := (2 : Int32)) S110 (by decide)
                              have hat110 := H110.at hin110 (v := (.int (f0_2 p1 p2 q3 cz).toUInt32.toUInt16.toUInt32.toInt32)) (rfl)
                              have st115 : ∀ t, Steps p.tables e below (T58.setTop (mkF m 355 #[.val (.int p1), .val (.int p2), .val (.long q3), .second, .val (.int (p1 &&& (7 : Int32))), .val (.int ((XT.ushr p1 (3 : Int32)) &&& (7 : Int32))), .val (.ref o1), .val (.ref o6), .val (.ref o57), .unset, .unset, .unset] [(.int (f0_11 p1 p2 q3 cz))])) t → Steps p.tables e below (T58.setTop (mkF m 338 #[.val (.int p1), .val (.int p2), .val (.long q3), .second, .val (.int (p1 &&& (7 : Int32))), .val (.int ((XT.ushr p1 (3 : Int32)) &&& (7 : Int32))), .val (.ref o1), .val (.ref o6), .val (.ref o57), .unset, .unset, .unset] [(.int (51 : Int32)), (.int (f0_2 p1 p2 q3 cz).toUInt32.toUInt16.toUInt32.toInt32)])) t := by
                                intro t k
                                by_cases h111 : (f0_2 p1 p2 q3 cz).toUInt32.toUInt16.toUInt32.toInt32 = (51 : Int32)
                                · obtain ⟨cl112, Ar112, -, S112, M112, H112, -⟩ := id u58_0
                                  have hin112 := inb_of (j := (3 : Int32)) S112 (by decide)
                                  have hat112 := H112.at hin112 (v := (.int (f0_3 p1 p2 q3 cz).toUInt32.toUInt16.toUInt32.toInt32)) (rfl)
                                  have st114 : ∀ t, Steps p.tables e below (T58.setTop (mkF m 355 #[.val (.int p1), .val (.int p2), .val (.long q3), .second, .val (.int (p1 &&& (7 : Int32))), .val (.int ((XT.ushr p1 (3 : Int32)) &&& (7 : Int32))), .val (.ref o1), .val (.ref o6), .val (.ref o57), .unset, .unset, .unset] [(.int (f0_10 p1 p2 q3 cz))])) t → Steps p.tables e below (T58.setTop (mkF m 347 #[.val (.int p1), .val (.int p2), .val (.long q3), .second, .val (.int (p1 &&& (7 : Int32))), .val (.int ((XT.ushr p1 (3 : Int32)) &&& (7 : Int32))), .val (.ref o1), .val (.ref o6), .val (.ref o57), .unset, .unset, .unset] [(.int (55 : Int32)), (.int (f0_3 p1 p2 q3 cz).toUInt32.toUInt16.toUInt32.toInt32)])) t := by
                                    intro t k
                                    by_cases h113 : (f0_3 p1 p2 q3 cz).toUInt32.toUInt16.toUInt32.toInt32 = (55 : Int32)
                                    · rw [show (f0_10 p1 p2 q3 cz) = (1 : Int32) from if_pos h113] at k
                                      show Steps p.tables e below (T58.setTop (mkF m 347 #[.val (.int p1), .val (.int p2), .val (.long q3), .second, .val (.int (p1 &&& (7 : Int32))), .val (.int ((XT.ushr p1 (3 : Int32)) &&& (7 : Int32))), .val (.ref o1), .val (.ref o6), .val (.ref o57), .unset, .unset, .unset] [(.int (55 : Int32)), (.int (f0_3 p1 p2 q3 cz).toUInt32.toUInt16.toUInt32.toInt32)])) _
                                      refine XS.icmpNo X58.here hx rfl (hb hby at_347) rfl (teq h113).2 ?_
                                      show Steps p.tables e below (T58.setTop (mkF m 350 #[.val (.int p1), .val (.int p2), .val (.long q3), .second, .val (.int (p1 &&& (7 : Int32))), .val (.int ((XT.ushr p1 (3 : Int32)) &&& (7 : Int32))), .val (.ref o1), .val (.ref o6), .val (.ref o57), .unset, .unset, .unset] [])) _
                                      refine XS.iconst X58.here hx rfl (hb hby at_350) ?_
                                      show Steps p.tables e below (T58.setTop (mkF m 351 #[.val (.int p1), .val (.int p2), .val (.long q3), .second, .val (.int (p1 &&& (7 : Int32))), .val (.int ((XT.ushr p1 (3 : Int32)) &&& (7 : Int32))), .val (.ref o1), .val (.ref o6), .val (.ref o57), .unset, .unset, .unset] [(.int (1 : Int32))])) _
                                      refine XS.goto X58.here hx rfl (pc0 := 351) (pc' := 355) rfl (hb hby at_351) (by decide) (by decide) ?_
                                      exact k
                                    · rw [show (f0_10 p1 p2 q3 cz) = (0 : Int32) from if_neg h113] at k
                                      show Steps p.tables e below (T58.setTop (mkF m 347 #[.val (.int p1), .val (.int p2), .val (.long q3), .second, .val (.int (p1 &&& (7 : Int32))), .val (.int ((XT.ushr p1 (3 : Int32)) &&& (7 : Int32))), .val (.ref o1), .val (.ref o6), .val (.ref o57), .unset, .unset, .unset] [(.int (55 : Int32)), (.int (f0_3 p1 p2 q3 cz).toUInt32.toUInt16.toUInt32.toInt32)])) _
                                      refine XS.icmpYes X58.here hx rfl (pc0 := 347) (pc' := 354) rfl (hb hby at_347) rfl (feq h113).2 (by decide) (by decide) ?_
                                      show Steps p.tables e below (T58.setTop (mkF m 354 #[.val (.int p1), .val (.int p2), .val (.long q3), .second, .val (.int (p1 &&& (7 : Int32))), .val (.int ((XT.ushr p1 (3 : Int32)) &&& (7 : Int32))), .val (.ref o1), .val (.ref o6), .val (.ref o57), .unset, .unset, .unset] [])) _
                                      refine XS.iconst X58.here hx rfl (hb hby at_354) ?_
                                      exact k
                                  rw [show (f0_11 p1 p2 q3 cz) = (f0_10 p1 p2 q3 cz) from if_pos h111] at k
                                  show Steps p.tables e below (T58.setTop (mkF m 338 #[.val (.int p1), .val (.int p2), .val (.long q3), .second, .val (.int (p1 &&& (7 : Int32))), .val (.int ((XT.ushr p1 (3 : Int32)) &&& (7 : Int32))), .val (.ref o1), .val (.ref o6), .val (.ref o57), .unset, .unset, .unset] [(.int (51 : Int32)), (.int (f0_2 p1 p2 q3 cz).toUInt32.toUInt16.toUInt32.toInt32)])) _
                                  refine XS.icmpNo X58.here hx rfl (hb hby at_338) rfl (teq h111).2 ?_
                                  show Steps p.tables e below (T58.setTop (mkF m 341 #[.val (.int p1), .val (.int p2), .val (.long q3), .second, .val (.int (p1 &&& (7 : Int32))), .val (.int ((XT.ushr p1 (3 : Int32)) &&& (7 : Int32))), .val (.ref o1), .val (.ref o6), .val (.ref o57), .unset, .unset, .unset] [])) _
                                  refine XS.aload X58.here hx rfl (hb hby at_341) rfl rfl ?_
                                  show Steps p.tables e below (T58.setTop (mkF m 343 #[.val (.int p1), .val (.int p2), .val (.long q3), .second, .val (.int (p1 &&& (7 : Int32))), .val (.int ((XT.ushr p1 (3 : Int32)) &&& (7 : Int32))), .val (.ref o1), .val (.ref o6), .val (.ref o57), .unset, .unset, .unset] [(.ref o1)])) _
                                  refine XS.iconst X58.here hx rfl (hb hby at_343) ?_
                                  show Steps p.tables e below (T58.setTop (mkF m 344 #[.val (.int p1), .val (.int p2), .val (.long q3), .second, .val (.int (p1 &&& (7 : Int32))), .val (.int ((XT.ushr p1 (3 : Int32)) &&& (7 : Int32))), .val (.ref o1), .val (.ref o6), .val (.ref o57), .unset, .unset, .unset] [(.int (3 : Int32)), (.ref o1)])) _
                                  refine X58.caload hx (j := (3 : Int32)) (v := (.int (f0_3 p1 p2 q3 cz).toUInt32.toUInt16.toUInt32.toInt32)) Ar112.1 (State.isArrayOf_alike hZ.alike Ar112.2.1) Ar112.2.2 hin112 hat112 (g := (mkF m 344 #[.val (.int p1), .val (.int p2), .val (.long q3), .second, .val (.int (p1 &&& (7 : Int32))), .val (.int ((XT.ushr p1 (3 : Int32)) &&& (7 : Int32))), .val (.ref o1), .val (.ref o6), .val (.ref o57), .unset, .unset, .unset] [(.int (3 : Int32)), (.ref o1)])) rfl rfl (hb hby at_344) _ ?_
                                  show Steps p.tables e below (T58.setTop (mkF m 345 #[.val (.int p1), .val (.int p2), .val (.long q3), .second, .val (.int (p1 &&& (7 : Int32))), .val (.int ((XT.ushr p1 (3 : Int32)) &&& (7 : Int32))), .val (.ref o1), .val (.ref o6), .val (.ref o57), .unset, .unset, .unset] [(.int (f0_3 p1 p2 q3 cz).toUInt32.toUInt16.toUInt32.toInt32)])) _
                                  refine XS.bipush X58.here hx rfl (hb hby at_345) ?_
                                  show Steps p.tables e below (T58.setTop (mkF m 347 #[.val (.int p1), .val (.int p2), .val (.long q3), .second, .val (.int (p1 &&& (7 : Int32))), .val (.int ((XT.ushr p1 (3 : Int32)) &&& (7 : Int32))), .val (.ref o1), .val (.ref o6), .val (.ref o57), .unset, .unset, .unset] [(.int (55 : Int32)), (.int (f0_3 p1 p2 q3 cz).toUInt32.toUInt16.toUInt32.toInt32)])) _
                                  refine st114 _ ?_
                                  exact k
                                · rw [show (f0_11 p1 p2 q3 cz) = (0 : Int32) from if_neg h111] at k
                                  show Steps p.tables e below (T58.setTop (mkF m 338 #[.val (.int p1), .val (.int p2), .val (.long q3), .second, .val (.int (p1 &&& (7 : Int32))), .val (.int ((XT.ushr p1 (3 : Int32)) &&& (7 : Int32))), .val (.ref o1), .val (.ref o6), .val (.ref o57), .unset, .unset, .unset] [(.int (51 : Int32)), (.int (f0_2 p1 p2 q3 cz).toUInt32.toUInt16.toUInt32.toInt32)])) _
                                  refine XS.icmpYes X58.here hx rfl (pc0 := 338) (pc' := 354) rfl (hb hby at_338) rfl (feq h111).2 (by decide) (by decide) ?_
                                  show Steps p.tables e below (T58.setTop (mkF m 354 #[.val (.int p1), .val (.int p2), .val (.long q3), .second, .val (.int (p1 &&& (7 : Int32))), .val (.int ((XT.ushr p1 (3 : Int32)) &&& (7 : Int32))), .val (.ref o1), .val (.ref o6), .val (.ref o57), .unset, .unset, .unset] [])) _
                                  refine XS.iconst X58.here hx rfl (hb hby at_354) ?_
                                  exact k
                              rw [show (f0_12 p1 p2 q3 cz) = (f0_11 p1 p2 q3 cz) from if_pos h109] at k
                              show Steps p.tables e below (T58.setTop (mkF m 329 #[.val (.int p1), .val (.int p2), .val (.long q3), .second, .val (.int (p1 &&& (7 : Int32))), .val (.int ((XT.ushr p1 (3 : Int32)) &&& (7 : Int32))), .val (.ref o1), .val (.ref o6), .val (.ref o57), .unset, .unset, .unset] [(.int (51 : Int32)), (.int (f0_1 p1 p2 q3 cz).toUInt32.toUInt16.toUInt32.toInt32)])) _
                              refine XS.icmpNo X58.here hx rfl (hb hby at_329) rfl (teq h109).2 ?_
                              show Steps p.tables e below (T58.setTop (mkF m 332 #[.val (.int p1), .val (.int p2), .val (.long q3), .second, .val (.int (p1 &&& (7 : Int32))), .val (.int ((XT.ushr p1 (3 : Int32)) &&& (7 : Int32))), .val (.ref o1), .val (.ref o6), .val (.ref o57), .unset, .unset, .unset] [])) _
                              refine XS.aload X58.here hx rfl (hb hby at_332) rfl rfl ?_
                              show Steps p.tables e below (T58.setTop (mkF m 334 #[.val (.int p1), .val (.int p2), .val (.long q3), .second, .val (.int (p1 &&& (7 : Int32))), .val (.int ((XT.ushr p1 (3 : Int32)) &&& (7 : Int32))), .val (.ref o1), .val (.ref o6), .val (.ref o57), .unset, .unset, .unset] [(.ref o1)])) _
                              refine XS.iconst X58.here hx rfl (hb hby at_334) ?_
                              show Steps p.tables e below (T58.setTop (mkF m 335 #[.val (.int p1), .val (.int p2), .val (.long q3), .second, .val (.int (p1 &&& (7 : Int32))), .val (.int ((XT.ushr p1 (3 : Int32)) &&& (7 : Int32))), .val (.ref o1), .val (.ref o6), .val (.ref o57), .unset, .unset, .unset] [(.int (2 : Int32)), (.ref o1)])) _
                              refine X58.caload hx (j := (2 : Int32)) (v := (.int (f0_2 p1 p2 q3 cz).toUInt32.toUInt16.toUInt32.toInt32)) Ar110.1 (State.isArrayOf_alike hZ.alike Ar110.2.1) Ar110.2.2 hin110 hat110 (g := (mkF m 335 #[.val (.int p1), .val (.int p2), .val (.long q3), .second, .val (.int (p1 &&& (7 : Int32))), .val (.int ((XT.ushr p1 (3 : Int32)) &&& (7 : Int32))), .val (.ref o1), .val (.ref o6), .val (.ref o57), .unset, .unset, .unset] [(.int (2 : Int32)), (.ref o1)])) rfl rfl (hb hby at_335) _ ?_
                              show Steps p.tables e below (T58.setTop (mkF m 336 #[.val (.int p1), .val (.int p2), .val (.long q3), .second, .val (.int (p1 &&& (7 : Int32))), .val (.int ((XT.ushr p1 (3 : Int32)) &&& (7 : Int32))), .val (.ref o1), .val (.ref o6), .val (.ref o57), .unset, .unset, .unset] [(.int (f0_2 p1 p2 q3 cz).toUInt32.toUInt16.toUInt32.toInt32)])) _
                              refine XS.bipush X58.here hx rfl (hb hby at_336) ?_
                              show Steps p.tables e below (T58.setTop (mkF m 338 #[.val (.int p1), .val (.int p2), .val (.long q3), .second, .val (.int (p1 &&& (7 : Int32))), .val (.int ((XT.ushr p1 (3 : Int32)) &&& (7 : Int32))), .val (.ref o1), .val (.ref o6), .val (.ref o57), .unset, .unset, .unset] [(.int (51 : Int32)), (.int (f0_2 p1 p2 q3 cz).toUInt32.toUInt16.toUInt32.toInt32)])) _
                              refine st115 _ ?_
                              exact k
                            · rw [show (f0_12 p1 p2 q3 cz) = (0 : Int32) from if_neg h109] at k
                              show Steps p.tables e below (T58.setTop (mkF m 329 #[.val (.int p1), .val (.int p2), .val (.long q3), .second, .val (.int (p1 &&& (7 : Int32))), .val (.int ((XT.ushr p1 (3 : Int32)) &&& (7 : Int32))), .val (.ref o1), .val (.ref o6), .val (.ref o57), .unset, .unset, .unset] [(.int (51 : Int32)), (.int (f0_1 p1 p2 q3 cz).toUInt32.toUInt16.toUInt32.toInt32)])) _
                              refine XS.icmpYes X58.here hx rfl (pc0 := 329) (pc' := 354) rfl (hb hby at_329) rfl (feq h109).2 (by decide) (by decide) ?_
                              show Steps p.tables e below (T58.setTop (mkF m 354 #[.val (.int p1), .val (.int p2), .val (.long q3), .second, .val (.int (p1 &&& (7 : Int32))), .val (.int ((XT.ushr p1 (3 : Int32)) &&& (7 : Int32))), .val (.ref o1), .val (.ref o6), .val (.ref o57), .unset, .unset, .unset] [])) _
                              refine XS.iconst X58.here hx rfl (hb hby at_354) ?_
                              exact k
                          rw [show (f0_13 p1 p2 q3 cz) = (f0_12 p1 p2 q3 cz) from if_pos h107] at k
                          show Steps p.tables e below (T58.setTop (mkF m 320 #[.val (.int p1), .val (.int p2), .val (.long q3), .second, .val (.int (p1 &&& (7 : Int32))), .val (.int ((XT.ushr p1 (3 : Int32)) &&& (7 : Int32))), .val (.ref o1), .val (.ref o6), .val (.ref o57), .unset, .unset, .unset] [(.int (52 : Int32)), (.int (f0_0 p1 p2 q3 cz))])) _
                          refine XS.icmpNo X58.here hx rfl (hb hby at_320) rfl (teq h107).2 ?_
                          show Steps p.tables e below (T58.setTop (mkF m 323 #[.val (.int p1), .val (.int p2), .val (.long q3), .second, .val (.int (p1 &&& (7 : Int32))), .val (.int ((XT.ushr p1 (3 : Int32)) &&& (7 : Int32))), .val (.ref o1), .val (.ref o6), .val (.ref o57), .unset, .unset, .unset] [])) _
                          refine XS.aload X58.here hx rfl (hb hby at_323) rfl rfl ?_
                          show Steps p.tables e below (T58.setTop (mkF m 325 #[.val (.int p1), .val (.int p2), .val (.long q3), .second, .val (.int (p1 &&& (7 : Int32))), .val (.int ((XT.ushr p1 (3 : Int32)) &&& (7 : Int32))), .val (.ref o1), .val (.ref o6), .val (.ref o57), .unset, .unset, .unset] [(.ref o1)])) _
                          refine XS.iconst X58.here hx rfl (hb hby at_325) ?_
                          show Steps p.tables e below (T58.setTop (mkF m 326 #[.val (.int p1), .val (.int p2), .val (.long q3), .second, .val (.int (p1 &&& (7 : Int32))), .val (.int ((XT.ushr p1 (3 : Int32)) &&& (7 : Int32))), .val (.ref o1), .val (.ref o6), .val (.ref o57), .unset, .unset, .unset] [(.int (1 : Int32)), (.ref o1)])) _
                          refine X58.caload hx (j := (1 : Int32)) (v := (.int (f0_1 p1 p2 q3 cz).toUInt32.toUInt16.toUInt32.toInt32)) Ar108.1 (State.isArrayOf_alike hZ.alike Ar108.2.1) Ar108.2.2 hin108 hat108 (g := (mkF m 326 #[.val (.int p1), .val (.int p2), .val (.long q3), .second, .val (.int (p1 &&& (7 : Int32))), .val (.int ((XT.ushr p1 (3 : Int32)) &&& (7 : Int32))), .val (.ref o1), .val (.ref o6), .val (.ref o57), .unset, .unset, .unset] [(.int (1 : Int32)), (.ref o1)])) rfl rfl (hb hby at_326) _ ?_
                          show Steps p.tables e below (T58.setTop (mkF m 327 #[.val (.int p1), .val (.int p2), .val (.long q3), .second, .val (.int (p1 &&& (7 : Int32))), .val (.int ((XT.ushr p1 (3 : Int32)) &&& (7 : Int32))), .val (.ref o1), .val (.ref o6), .val (.ref o57), .unset, .unset, .unset] [(.int (f0_1 p1 p2 q3 cz).toUInt32.toUInt16.toUInt32.toInt32)])) _
                          refine XS.bipush X58.here hx rfl (hb hby at_327) ?_
                          show Steps p.tables e below (T58.setTop (mkF m 329 #[.val (.int p1), .val (.int p2), .val (.long q3), .second, .val (.int (p1 &&& (7 : Int32))), .val (.int ((XT.ushr p1 (3 : Int32)) &&& (7 : Int32))), .val (.ref o1), .val (.ref o6), .val (.ref o57), .unset, .unset, .unset] [(.int (51 : Int32)), (.int (f0_1 p1 p2 q3 cz).toUInt32.toUInt16.toUInt32.toInt32)])) _
                          refine st116 _ ?_
                          exact k
                        · rw [show (f0_13 p1 p2 q3 cz) = (0 : Int32) from if_neg h107] at k
                          show Steps p.tables e below (T58.setTop (mkF m 320 #[.val (.int p1), .val (.int p2), .val (.long q3), .second, .val (.int (p1 &&& (7 : Int32))), .val (.int ((XT.ushr p1 (3 : Int32)) &&& (7 : Int32))), .val (.ref o1), .val (.ref o6), .val (.ref o57), .unset, .unset, .unset] [(.int (52 : Int32)), (.int (f0_0 p1 p2 q3 cz))])) _
                          refine XS.icmpYes X58.here hx rfl (pc0 := 320) (pc' := 354) rfl (hb hby at_320) rfl (feq h107).2 (by decide) (by decide) ?_
                          show Steps p.tables e below (T58.setTop (mkF m 354 #[.val (.int p1), .val (.int p2), .val (.long q3), .second, .val (.int (p1 &&& (7 : Int32))), .val (.int ((XT.ushr p1 (3 : Int32)) &&& (7 : Int32))), .val (.ref o1), .val (.ref o6), .val (.ref o57), .unset, .unset, .unset] [])) _
                          refine XS.iconst X58.here hx rfl (hb hby at_354) ?_
                          exact k
                      rw [show (f0_17 p1 p2 q3 cz) = (f0_13 p1 p2 q3 cz) from if_neg h60] at k
                      show Steps p.tables e below (T58.setTop (mkF m 284 #[.val (.int p1), .val (.int p2), .val (.long q3), .second, .val (.int (p1 &&& (7 : Int32))), .val (.int ((XT.ushr p1 (3 : Int32)) &&& (7 : Int32))), .val (.ref o1), .val (.ref o6), .val (.ref o57), .unset, .unset, .unset] [(.int (49 : Int32)), (.int (f0_0 p1 p2 q3 cz))])) _
                      refine XS.icmpYes X58.here hx rfl (pc0 := 284) (pc' := 314) rfl (hb hby at_284) rfl (feq h60).2 (by decide) (by decide) ?_
                      show Steps p.tables e below (T58.setTop (mkF m 314 #[.val (.int p1), .val (.int p2), .val (.long q3), .second, .val (.int (p1 &&& (7 : Int32))), .val (.int ((XT.ushr p1 (3 : Int32)) &&& (7 : Int32))), .val (.ref o1), .val (.ref o6), .val (.ref o57), .unset, .unset, .unset] [])) _
                      refine XS.aload X58.here hx rfl (hb hby at_314) rfl rfl ?_
                      show Steps p.tables e below (T58.setTop (mkF m 316 #[.val (.int p1), .val (.int p2), .val (.long q3), .second, .val (.int (p1 &&& (7 : Int32))), .val (.int ((XT.ushr p1 (3 : Int32)) &&& (7 : Int32))), .val (.ref o1), .val (.ref o6), .val (.ref o57), .unset, .unset, .unset] [(.ref o1)])) _
                      refine XS.iconst X58.here hx rfl (hb hby at_316) ?_
                      show Steps p.tables e below (T58.setTop (mkF m 317 #[.val (.int p1), .val (.int p2), .val (.long q3), .second, .val (.int (p1 &&& (7 : Int32))), .val (.int ((XT.ushr p1 (3 : Int32)) &&& (7 : Int32))), .val (.ref o1), .val (.ref o6), .val (.ref o57), .unset, .unset, .unset] [(.int (0 : Int32)), (.ref o1)])) _
                      refine X58.caload hx (j := (0 : Int32)) (v := (.int (f0_0 p1 p2 q3 cz))) Ar106.1 (State.isArrayOf_alike hZ.alike Ar106.2.1) Ar106.2.2 hin106 hat106 (g := (mkF m 317 #[.val (.int p1), .val (.int p2), .val (.long q3), .second, .val (.int (p1 &&& (7 : Int32))), .val (.int ((XT.ushr p1 (3 : Int32)) &&& (7 : Int32))), .val (.ref o1), .val (.ref o6), .val (.ref o57), .unset, .unset, .unset] [(.int (0 : Int32)), (.ref o1)])) rfl rfl (hb hby at_317) _ ?_
                      show Steps p.tables e below (T58.setTop (mkF m 318 #[.val (.int p1), .val (.int p2), .val (.long q3), .second, .val (.int (p1 &&& (7 : Int32))), .val (.int ((XT.ushr p1 (3 : Int32)) &&& (7 : Int32))), .val (.ref o1), .val (.ref o6), .val (.ref o57), .unset, .unset, .unset] [(.int (f0_0 p1 p2 q3 cz))])) _
                      refine XS.bipush X58.here hx rfl (hb hby at_318) ?_
                      show Steps p.tables e below (T58.setTop (mkF m 320 #[.val (.int p1), .val (.int p2), .val (.long q3), .second, .val (.int (p1 &&& (7 : Int32))), .val (.int ((XT.ushr p1 (3 : Int32)) &&& (7 : Int32))), .val (.ref o1), .val (.ref o6), .val (.ref o57), .unset, .unset, .unset] [(.int (52 : Int32)), (.int (f0_0 p1 p2 q3 cz))])) _
                      refine st117 _ ?_
                      exact k
                  have CR119 := CR14.trans (CHr.ext EE58 CR14.1)
                  have hk119 := Nat.le_trans hk14 EE58.1
                  rw [show (f0_c13 p1 p2 q3 cz) = ([(f0_0 p1 p2 q3 cz), (f0_1 p1 p2 q3 cz).toUInt32.toUInt16.toUInt32.toInt32, (f0_2 p1 p2 q3 cz).toUInt32.toUInt16.toUInt32.toInt32, (f0_3 p1 p2 q3 cz).toUInt32.toUInt16.toUInt32.toInt32] : List Int32) from by simp only [f0_c13, if_neg hc13_0, if_neg hc13_1, if_neg hc13_2, if_neg hc13_3, if_neg hc13_4, if_neg hc13_5, if_neg hc13_6], show (f0_o13 p1 p2 q3 cz) = (f0_17 p1 p2 q3 cz) from by simp only [f0_o13, if_neg hc13_0, if_neg hc13_1, if_neg hc13_2, if_neg hc13_3, if_neg hc13_4, if_neg hc13_5, if_neg hc13_6]]
                  refine ⟨T58, s.vm, _, T58.heap, o57, _, X58.more (by decide) (by decide), rfl, EE58, hS0, hk119, hZ, hown, N58, CR119, T_58, fun t k => ?_⟩
                  show Steps p.tables e below (T12.setTop (mkF m 155 #[.val (.int p1), .val (.int p2), .val (.long q3), .second, .val (.int (p1 &&& (7 : Int32))), .val (.int ((XT.ushr p1 (3 : Int32)) &&& (7 : Int32))), .val (.ref o1), .val (.ref o6), .unset, .unset, .unset, .unset] [])) _
                  refine XS.iload X12.here hx rfl (hb hby at_155) rfl ?_
                  show Steps p.tables e below (T12.setTop (mkF m 157 #[.val (.int p1), .val (.int p2), .val (.long q3), .second, .val (.int (p1 &&& (7 : Int32))), .val (.int ((XT.ushr p1 (3 : Int32)) &&& (7 : Int32))), .val (.ref o1), .val (.ref o6), .unset, .unset, .unset, .unset] [(.int (p1 &&& (7 : Int32)))])) _
                  refine XS.ifYes X12.here hx rfl (pc0 := 157) (pc' := 170) rfl (hb hby at_157) rfl ((if0 _ _).trans (feq h50).2) (by decide) (by decide) ?_
                  show Steps p.tables e below (T12.setTop (mkF m 170 #[.val (.int p1), .val (.int p2), .val (.long q3), .second, .val (.int (p1 &&& (7 : Int32))), .val (.int ((XT.ushr p1 (3 : Int32)) &&& (7 : Int32))), .val (.ref o1), .val (.ref o6), .unset, .unset, .unset, .unset] [])) _
                  refine XS.iload X12.here hx rfl (hb hby at_170) rfl ?_
                  show Steps p.tables e below (T12.setTop (mkF m 172 #[.val (.int p1), .val (.int p2), .val (.long q3), .second, .val (.int (p1 &&& (7 : Int32))), .val (.int ((XT.ushr p1 (3 : Int32)) &&& (7 : Int32))), .val (.ref o1), .val (.ref o6), .unset, .unset, .unset, .unset] [(.int (p1 &&& (7 : Int32)))])) _
                  refine XS.iconst X12.here hx rfl (hb hby at_172) ?_
                  show Steps p.tables e below (T12.setTop (mkF m 173 #[.val (.int p1), .val (.int p2), .val (.long q3), .second, .val (.int (p1 &&& (7 : Int32))), .val (.int ((XT.ushr p1 (3 : Int32)) &&& (7 : Int32))), .val (.ref o1), .val (.ref o6), .unset, .unset, .unset, .unset] [(.int (1 : Int32)), (.int (p1 &&& (7 : Int32)))])) _
                  refine XS.icmpYes X12.here hx rfl (pc0 := 173) (pc' := 186) rfl (hb hby at_173) rfl (feq h51).2 (by decide) (by decide) ?_
                  show Steps p.tables e below (T12.setTop (mkF m 186 #[.val (.int p1), .val (.int p2), .val (.long q3), .second, .val (.int (p1 &&& (7 : Int32))), .val (.int ((XT.ushr p1 (3 : Int32)) &&& (7 : Int32))), .val (.ref o1), .val (.ref o6), .unset, .unset, .unset, .unset] [])) _
                  refine XS.iload X12.here hx rfl (hb hby at_186) rfl ?_
                  show Steps p.tables e below (T12.setTop (mkF m 188 #[.val (.int p1), .val (.int p2), .val (.long q3), .second, .val (.int (p1 &&& (7 : Int32))), .val (.int ((XT.ushr p1 (3 : Int32)) &&& (7 : Int32))), .val (.ref o1), .val (.ref o6), .unset, .unset, .unset, .unset] [(.int (p1 &&& (7 : Int32)))])) _
                  refine XS.iconst X12.here hx rfl (hb hby at_188) ?_
                  show Steps p.tables e below (T12.setTop (mkF m 189 #[.val (.int p1), .val (.int p2), .val (.long q3), .second, .val (.int (p1 &&& (7 : Int32))), .val (.int ((XT.ushr p1 (3 : Int32)) &&& (7 : Int32))), .val (.ref o1), .val (.ref o6), .unset, .unset, .unset, .unset] [(.int (2 : Int32)), (.int (p1 &&& (7 : Int32)))])) _
                  refine XS.icmpYes X12.here hx rfl (pc0 := 189) (pc' := 202) rfl (hb hby at_189) rfl (feq h52).2 (by decide) (by decide) ?_
                  show Steps p.tables e below (T12.setTop (mkF m 202 #[.val (.int p1), .val (.int p2), .val (.long q3), .second, .val (.int (p1 &&& (7 : Int32))), .val (.int ((XT.ushr p1 (3 : Int32)) &&& (7 : Int32))), .val (.ref o1), .val (.ref o6), .unset, .unset, .unset, .unset] [])) _
                  refine XS.iload X12.here hx rfl (hb hby at_202) rfl ?_
                  show Steps p.tables e below (T12.setTop (mkF m 204 #[.val (.int p1), .val (.int p2), .val (.long q3), .second, .val (.int (p1 &&& (7 : Int32))), .val (.int ((XT.ushr p1 (3 : Int32)) &&& (7 : Int32))), .val (.ref o1), .val (.ref o6), .unset, .unset, .unset, .unset] [(.int (p1 &&& (7 : Int32)))])) _
                  refine XS.iconst X12.here hx rfl (hb hby at_204) ?_
                  show Steps p.tables e below (T12.setTop (mkF m 205 #[.val (.int p1), .val (.int p2), .val (.long q3), .second, .val (.int (p1 &&& (7 : Int32))), .val (.int ((XT.ushr p1 (3 : Int32)) &&& (7 : Int32))), .val (.ref o1), .val (.ref o6), .unset, .unset, .unset, .unset] [(.int (3 : Int32)), (.int (p1 &&& (7 : Int32)))])) _
                  refine XS.icmpYes X12.here hx rfl (pc0 := 205) (pc' := 218) rfl (hb hby at_205) rfl (feq h53).2 (by decide) (by decide) ?_
                  show Steps p.tables e below (T12.setTop (mkF m 218 #[.val (.int p1), .val (.int p2), .val (.long q3), .second, .val (.int (p1 &&& (7 : Int32))), .val (.int ((XT.ushr p1 (3 : Int32)) &&& (7 : Int32))), .val (.ref o1), .val (.ref o6), .unset, .unset, .unset, .unset] [])) _
                  refine XS.iload X12.here hx rfl (hb hby at_218) rfl ?_
                  show Steps p.tables e below (T12.setTop (mkF m 220 #[.val (.int p1), .val (.int p2), .val (.long q3), .second, .val (.int (p1 &&& (7 : Int32))), .val (.int ((XT.ushr p1 (3 : Int32)) &&& (7 : Int32))), .val (.ref o1), .val (.ref o6), .unset, .unset, .unset, .unset] [(.int (p1 &&& (7 : Int32)))])) _
                  refine XS.iconst X12.here hx rfl (hb hby at_220) ?_
                  show Steps p.tables e below (T12.setTop (mkF m 221 #[.val (.int p1), .val (.int p2), .val (.long q3), .second, .val (.int (p1 &&& (7 : Int32))), .val (.int ((XT.ushr p1 (3 : Int32)) &&& (7 : Int32))), .val (.ref o1), .val (.ref o6), .unset, .unset, .unset, .unset] [(.int (4 : Int32)), (.int (p1 &&& (7 : Int32)))])) _
                  refine XS.icmpYes X12.here hx rfl (pc0 := 221) (pc' := 234) rfl (hb hby at_221) rfl (feq h54).2 (by decide) (by decide) ?_
                  show Steps p.tables e below (T12.setTop (mkF m 234 #[.val (.int p1), .val (.int p2), .val (.long q3), .second, .val (.int (p1 &&& (7 : Int32))), .val (.int ((XT.ushr p1 (3 : Int32)) &&& (7 : Int32))), .val (.ref o1), .val (.ref o6), .unset, .unset, .unset, .unset] [])) _
                  refine XS.iload X12.here hx rfl (hb hby at_234) rfl ?_
                  show Steps p.tables e below (T12.setTop (mkF m 236 #[.val (.int p1), .val (.int p2), .val (.long q3), .second, .val (.int (p1 &&& (7 : Int32))), .val (.int ((XT.ushr p1 (3 : Int32)) &&& (7 : Int32))), .val (.ref o1), .val (.ref o6), .unset, .unset, .unset, .unset] [(.int (p1 &&& (7 : Int32)))])) _
                  refine XS.iconst X12.here hx rfl (hb hby at_236) ?_
                  show Steps p.tables e below (T12.setTop (mkF m 237 #[.val (.int p1), .val (.int p2), .val (.long q3), .second, .val (.int (p1 &&& (7 : Int32))), .val (.int ((XT.ushr p1 (3 : Int32)) &&& (7 : Int32))), .val (.ref o1), .val (.ref o6), .unset, .unset, .unset, .unset] [(.int (5 : Int32)), (.int (p1 &&& (7 : Int32)))])) _
                  refine XS.icmpYes X12.here hx rfl (pc0 := 237) (pc' := 250) rfl (hb hby at_237) rfl (feq h55).2 (by decide) (by decide) ?_
                  show Steps p.tables e below (T12.setTop (mkF m 250 #[.val (.int p1), .val (.int p2), .val (.long q3), .second, .val (.int (p1 &&& (7 : Int32))), .val (.int ((XT.ushr p1 (3 : Int32)) &&& (7 : Int32))), .val (.ref o1), .val (.ref o6), .unset, .unset, .unset, .unset] [])) _
                  refine XS.iload X12.here hx rfl (hb hby at_250) rfl ?_
                  show Steps p.tables e below (T12.setTop (mkF m 252 #[.val (.int p1), .val (.int p2), .val (.long q3), .second, .val (.int (p1 &&& (7 : Int32))), .val (.int ((XT.ushr p1 (3 : Int32)) &&& (7 : Int32))), .val (.ref o1), .val (.ref o6), .unset, .unset, .unset, .unset] [(.int (p1 &&& (7 : Int32)))])) _
                  refine XS.bipush X12.here hx rfl (hb hby at_252) ?_
                  show Steps p.tables e below (T12.setTop (mkF m 254 #[.val (.int p1), .val (.int p2), .val (.long q3), .second, .val (.int (p1 &&& (7 : Int32))), .val (.int ((XT.ushr p1 (3 : Int32)) &&& (7 : Int32))), .val (.ref o1), .val (.ref o6), .unset, .unset, .unset, .unset] [(.int (6 : Int32)), (.int (p1 &&& (7 : Int32)))])) _
                  refine XS.icmpYes X12.here hx rfl (pc0 := 254) (pc' := 267) rfl (hb hby at_254) rfl (feq h56).2 (by decide) (by decide) ?_
                  show Steps p.tables e below (T12.setTop (mkF m 267 #[.val (.int p1), .val (.int p2), .val (.long q3), .second, .val (.int (p1 &&& (7 : Int32))), .val (.int ((XT.ushr p1 (3 : Int32)) &&& (7 : Int32))), .val (.ref o1), .val (.ref o6), .unset, .unset, .unset, .unset] [])) _
                  refine st57 _ ?_
                  show Steps p.tables e below (T57.setTop (mkF m 270 #[.val (.int p1), .val (.int p2), .val (.long q3), .second, .val (.int (p1 &&& (7 : Int32))), .val (.int ((XT.ushr p1 (3 : Int32)) &&& (7 : Int32))), .val (.ref o1), .val (.ref o6), .unset, .unset, .unset, .unset] [(.ref o57)])) _
                  refine XS.dup X57.here hx rfl (hb hby at_270) rfl rfl ?_
                  show Steps p.tables e below (T57.setTop (mkF m 271 #[.val (.int p1), .val (.int p2), .val (.long q3), .second, .val (.int (p1 &&& (7 : Int32))), .val (.int ((XT.ushr p1 (3 : Int32)) &&& (7 : Int32))), .val (.ref o1), .val (.ref o6), .unset, .unset, .unset, .unset] [(.ref o57), (.ref o57)])) _
                  refine XS.aload X57.here hx rfl (hb hby at_271) rfl rfl ?_
                  show Steps p.tables e below (T57.setTop (mkF m 273 #[.val (.int p1), .val (.int p2), .val (.long q3), .second, .val (.int (p1 &&& (7 : Int32))), .val (.int ((XT.ushr p1 (3 : Int32)) &&& (7 : Int32))), .val (.ref o1), .val (.ref o6), .unset, .unset, .unset, .unset] [(.ref o1), (.ref o57), (.ref o57)])) _
                  refine st58.trans ?_
                  show Steps p.tables e below (T58.setTop (mkF m 276 #[.val (.int p1), .val (.int p2), .val (.long q3), .second, .val (.int (p1 &&& (7 : Int32))), .val (.int ((XT.ushr p1 (3 : Int32)) &&& (7 : Int32))), .val (.ref o1), .val (.ref o6), .unset, .unset, .unset, .unset] [(.ref o57)])) _
                  refine XS.astore X58.here hx rfl (hb hby at_276) rfl rfl (l' := #[.val (.int p1), .val (.int p2), .val (.long q3), .second, .val (.int (p1 &&& (7 : Int32))), .val (.int ((XT.ushr p1 (3 : Int32)) &&& (7 : Int32))), .val (.ref o1), .val (.ref o6), .val (.ref o57), .unset, .unset, .unset]) rfl ?_
                  show Steps p.tables e below (T58.setTop (mkF m 278 #[.val (.int p1), .val (.int p2), .val (.long q3), .second, .val (.int (p1 &&& (7 : Int32))), .val (.int ((XT.ushr p1 (3 : Int32)) &&& (7 : Int32))), .val (.ref o1), .val (.ref o6), .val (.ref o57), .unset, .unset, .unset] [])) _
                  refine XS.aload X58.here hx rfl (hb hby at_278) rfl rfl ?_
                  show Steps p.tables e below (T58.setTop (mkF m 280 #[.val (.int p1), .val (.int p2), .val (.long q3), .second, .val (.int (p1 &&& (7 : Int32))), .val (.int ((XT.ushr p1 (3 : Int32)) &&& (7 : Int32))), .val (.ref o1), .val (.ref o6), .val (.ref o57), .unset, .unset, .unset] [(.ref o1)])) _
                  refine XS.iconst X58.here hx rfl (hb hby at_280) ?_
                  show Steps p.tables e below (T58.setTop (mkF m 281 #[.val (.int p1), .val (.int p2), .val (.long q3), .second, .val (.int (p1 &&& (7 : Int32))), .val (.int ((XT.ushr p1 (3 : Int32)) &&& (7 : Int32))), .val (.ref o1), .val (.ref o6), .val (.ref o57), .unset, .unset, .unset] [(.int (0 : Int32)), (.ref o1)])) _
                  refine X58.caload hx (j := (0 : Int32)) (v := (.int (f0_0 p1 p2 q3 cz))) Ar59.1 (State.isArrayOf_alike hZ.alike Ar59.2.1) Ar59.2.2 hin59 hat59 (g := (mkF m 281 #[.val (.int p1), .val (.int p2), .val (.long q3), .second, .val (.int (p1 &&& (7 : Int32))), .val (.int ((XT.ushr p1 (3 : Int32)) &&& (7 : Int32))), .val (.ref o1), .val (.ref o6), .val (.ref o57), .unset, .unset, .unset] [(.int (0 : Int32)), (.ref o1)])) rfl rfl (hb hby at_281) _ ?_
                  show Steps p.tables e below (T58.setTop (mkF m 282 #[.val (.int p1), .val (.int p2), .val (.long q3), .second, .val (.int (p1 &&& (7 : Int32))), .val (.int ((XT.ushr p1 (3 : Int32)) &&& (7 : Int32))), .val (.ref o1), .val (.ref o6), .val (.ref o57), .unset, .unset, .unset] [(.int (f0_0 p1 p2 q3 cz))])) _
                  refine XS.bipush X58.here hx rfl (hb hby at_282) ?_
                  show Steps p.tables e below (T58.setTop (mkF m 284 #[.val (.int p1), .val (.int p2), .val (.long q3), .second, .val (.int (p1 &&& (7 : Int32))), .val (.int ((XT.ushr p1 (3 : Int32)) &&& (7 : Int32))), .val (.ref o1), .val (.ref o6), .val (.ref o57), .unset, .unset, .unset] [(.int (49 : Int32)), (.int (f0_0 p1 p2 q3 cz))])) _
                  refine st118 _ ?_
                  show Steps p.tables e below (T58.setTop (mkF m 355 #[.val (.int p1), .val (.int p2), .val (.long q3), .second, .val (.int (p1 &&& (7 : Int32))), .val (.int ((XT.ushr p1 (3 : Int32)) &&& (7 : Int32))), .val (.ref o1), .val (.ref o6), .val (.ref o57), .unset, .unset, .unset] [(.int (f0_17 p1 p2 q3 cz))])) _
                  refine XS.istore X58.here hx rfl (hb hby at_355) rfl (l' := #[.val (.int p1), .val (.int p2), .val (.long q3), .second, .val (.int (p1 &&& (7 : Int32))), .val (.int ((XT.ushr p1 (3 : Int32)) &&& (7 : Int32))), .val (.ref o1), .val (.ref o6), .val (.ref o57), .val (.int (f0_17 p1 p2 q3 cz)), .unset, .unset]) rfl ?_
                  exact k
  have u13_0 := u12_0.ext E13
  have u13_1 := V12.ext E13
  have Z13 : n0 ≤ h13.size := Nat.le_trans Z12 E13.1
  have K13 := K12.ext E13
  have OL13 := OL12.ext E13
  refine own_step (B := T13.setTop (mkF m 357 #[.val (.int p1), .val (.int p2), .val (.long q3), .second, .val (.int (p1 &&& (7 : Int32))), .val (.int ((XT.ushr p1 (3 : Int32)) &&& (7 : Int32))), .val (.ref o1), .val (.ref o6), .val (.ref ad13), .val (.int (f0_o13 p1 p2 q3 cz)), .unset, .unset] [])) (fun t k => ?_) ?_
  · show Steps p.tables e below (T12.setTop (mkF m 155 #[.val (.int p1), .val (.int p2), .val (.long q3), .second, .val (.int (p1 &&& (7 : Int32))), .val (.int ((XT.ushr p1 (3 : Int32)) &&& (7 : Int32))), .val (.ref o1), .val (.ref o6), .unset, .unset, .unset, .unset] [])) _
    refine st13 _ ?_
    exact k
  by_cases hd1 : ((XT.ushr p1 (3 : Int32)) &&& (7 : Int32)) = (1 : Int32)
  · have hd0 : ¬ (((XT.ushr p1 (3 : Int32)) &&& (7 : Int32)) = (0 : Int32)) := by rw [hd1]; decide
    have h120 : ¬ (((XT.ushr p1 (3 : Int32)) &&& (7 : Int32)) = (0 : Int32)) := hd0
    have h121 : ((XT.ushr p1 (3 : Int32)) &&& (7 : Int32)) = (1 : Int32) := hd1
    obtain ⟨_, _, ⟨T122, L122, k122, n122⟩, -, Xw122, hsn122, hgr122, ⟨Lc122, hQ122, l122, y122, z122, CH122⟩, st122⟩ := callSS X13 hx (y := (⟨"com/example/medspan/medspan/Opioids", "isPatch", "(Ljava/lang/String;Ljava/lang/String;)Z"⟩ : MethodName)) hown (mvT hZ (hw _ (List.mem_of_getElem? (i := 11) rfl))) (mvT hZ (hw _ (List.mem_of_getElem? (i := 12) rfl))) (mvT hZ (hw _ (List.mem_of_getElem? (i := 13) rfl))) (mvT hZ (hw _ (List.mem_of_getElem? (i := 14) rfl))) (by decide) (backOfSH (s := s) (W := 0) (rmpatn l Z a0 hw [] ad13 (f0_c13 p1 p2 q3 cz) cz h13 n0 Z13 OL13 TT13 hCS hcz) hZ (hw _ (List.mem_of_getElem? (i := 14) rfl)) (hw _ (List.mem_of_getElem? (i := 13) rfl)) (by decide) (by decide) (own_EW hw) CR13.1) (g := (mkF m 544 #[.val (.int p1), .val (.int p2), .val (.long q3), .second, .val (.int (p1 &&& (7 : Int32))), .val (.int ((XT.ushr p1 (3 : Int32)) &&& (7 : Int32))), .val (.ref o1), .val (.ref o6), .val (.ref ad13), .val (.int (f0_o13 p1 p2 q3 cz)), .val .null, .val (.int (0 : Int32))] [.null, (.ref ad13)])) rfl (by rw [hml]; rfl) (argsL := [(.ref ad13), .null]) (rest := []) (lenOf pd_2 rfl) rfl (by show 2 * 0 + _ ≤ _; exact Nat.le_of_eq rfl) (hb hby at_544) (fun _ _ => ⟨rfl, e13, (by decide : 4 + 6 ≤ _), (by decide : 34 + 68 ≤ _)⟩)
    dsimp only [Pt.U, Pt.locs, Pt.cells, Pt.slots] at Xw122 l122 y122 z122 st122 hQ122 hsn122 hgr122 CH122
    subst l122 y122 z122
    obtain ⟨X122, hS122, hZ, hown⟩ := rebS hS13 (by rw [e13]; exact hk13) Xw122 hsn122 hgr122 hZ hown
    obtain ⟨rfl, N122q, Ee122⟩ := hQ122
    have N122 := Fr.app N13 N122q
    have K122 := K13.ext Ee122
    have CR122 := CR13.trans CH122
    have hk122 : T122.heap.size ≤ T122.heap.size := Nat.le_refl _
    have st125 : ∀ t, Steps p.tables e below (T122.setTop (mkF m 562 #[.val (.int p1), .val (.int p2), .val (.long q3), .second, .val (.int (p1 &&& (7 : Int32))), .val (.int ((XT.ushr p1 (3 : Int32)) &&& (7 : Int32))), .val (.ref o1), .val (.ref o6), .val (.ref ad13), .val (.int (f0_o13 p1 p2 q3 cz)), .val .null, .val (.int (0 : Int32))] [(.int (0 : Int32)), (.int (fpatn (f0_c13 p1 p2 q3 cz) cz))])) t → Steps p.tables e below (T122.setTop (mkF m 549 #[.val (.int p1), .val (.int p2), .val (.long q3), .second, .val (.int (p1 &&& (7 : Int32))), .val (.int ((XT.ushr p1 (3 : Int32)) &&& (7 : Int32))), .val (.ref o1), .val (.ref o6), .val (.ref ad13), .val (.int (f0_o13 p1 p2 q3 cz)), .val .null, .val (.int (0 : Int32))] [(.int (f0_o13 p1 p2 q3 cz)), (.int (fpatn (f0_c13 p1 p2 q3 cz) cz))])) t := by
      intro t k
      by_cases h123 : (f0_o13 p1 p2 q3 cz) = (0 : Int32)
      · show Steps p.tables e below (T122.setTop (mkF m 549 #[.val (.int p1), .val (.int p2), .val (.long q3), .second, .val (.int (p1 &&& (7 : Int32))), .val (.int ((XT.ushr p1 (3 : Int32)) &&& (7 : Int32))), .val (.ref o1), .val (.ref o6), .val (.ref ad13), .val (.int (f0_o13 p1 p2 q3 cz)), .val .null, .val (.int (0 : Int32))] [(.int (f0_o13 p1 p2 q3 cz)), (.int (fpatn (f0_c13 p1 p2 q3 cz) cz))])) _
        refine XS.ifYes X122.here hx rfl (pc0 := 549) (pc' := 561) rfl (hb hby at_549) rfl ((if0 _ _).trans (teq h123).1) (by decide) (by decide) ?_
        show Steps p.tables e below (T122.setTop (mkF m 561 #[.val (.int p1), .val (.int p2), .val (.long q3), .second, .val (.int (p1 &&& (7 : Int32))), .val (.int ((XT.ushr p1 (3 : Int32)) &&& (7 : Int32))), .val (.ref o1), .val (.ref o6), .val (.ref ad13), .val (.int (f0_o13 p1 p2 q3 cz)), .val .null, .val (.int (0 : Int32))] [(.int (fpatn (f0_c13 p1 p2 q3 cz) cz))])) _
        refine XS.iconst X122.here hx rfl (hb hby at_561) ?_
        exact k
      · have h124 : (0 : Int32) = (0 : Int32) := by decide
        show Steps p.tables e below (T122.setTop (mkF m 549 #[.val (.int p1), .val (.int p2), .val (.long q3), .second, .val (.int (p1 &&& (7 : Int32))), .val (.int ((XT.ushr p1 (3 : Int32)) &&& (7 : Int32))), .val (.ref o1), .val (.ref o6), .val (.ref ad13), .val (.int (f0_o13 p1 p2 q3 cz)), .val .null, .val (.int (0 : Int32))] [(.int (f0_o13 p1 p2 q3 cz)), (.int (fpatn (f0_c13 p1 p2 q3 cz) cz))])) _
        refine XS.ifNo X122.here hx rfl (hb hby at_549) rfl ((if0 _ _).trans (feq h123).1) ?_
        show Steps p.tables e below (T122.setTop (mkF m 552 #[.val (.int p1), .val (.int p2), .val (.long q3), .second, .val (.int (p1 &&& (7 : Int32))), .val (.int ((XT.ushr p1 (3 : Int32)) &&& (7 : Int32))), .val (.ref o1), .val (.ref o6), .val (.ref ad13), .val (.int (f0_o13 p1 p2 q3 cz)), .val .null, .val (.int (0 : Int32))] [(.int (fpatn (f0_c13 p1 p2 q3 cz) cz))])) _
        refine XS.iload X122.here hx rfl (hb hby at_552) rfl ?_
        show Steps p.tables e below (T122.setTop (mkF m 554 #[.val (.int p1), .val (.int p2), .val (.long q3), .second, .val (.int (p1 &&& (7 : Int32))), .val (.int ((XT.ushr p1 (3 : Int32)) &&& (7 : Int32))), .val (.ref o1), .val (.ref o6), .val (.ref ad13), .val (.int (f0_o13 p1 p2 q3 cz)), .val .null, .val (.int (0 : Int32))] [(.int (0 : Int32)), (.int (fpatn (f0_c13 p1 p2 q3 cz) cz))])) _
        refine XS.ifYes X122.here hx rfl (pc0 := 554) (pc' := 561) rfl (hb hby at_554) rfl ((if0 _ _).trans (teq h124).1) (by decide) (by decide) ?_
        show Steps p.tables e below (T122.setTop (mkF m 561 #[.val (.int p1), .val (.int p2), .val (.long q3), .second, .val (.int (p1 &&& (7 : Int32))), .val (.int ((XT.ushr p1 (3 : Int32)) &&& (7 : Int32))), .val (.ref o1), .val (.ref o6), .val (.ref ad13), .val (.int (f0_o13 p1 p2 q3 cz)), .val .null, .val (.int (0 : Int32))] [(.int (fpatn (f0_c13 p1 p2 q3 cz) cz))])) _
        refine XS.iconst X122.here hx rfl (hb hby at_561) ?_
        exact k
    have st127 : ∀ t, Steps p.tables e below (T122.setTop (mkF m 570 #[.val (.int p1), .val (.int p2), .val (.long q3), .second, .val (.int (p1 &&& (7 : Int32))), .val (.int ((XT.ushr p1 (3 : Int32)) &&& (7 : Int32))), .val (.ref o1), .val (.ref o6), .val (.ref ad13), .val (.int (f0_o13 p1 p2 q3 cz)), .val .null, .val (.int (0 : Int32))] [(.int (f0_18 p1 p2 q3 cz))])) t → Steps p.tables e below (T122.setTop (mkF m 562 #[.val (.int p1), .val (.int p2), .val (.long q3), .second, .val (.int (p1 &&& (7 : Int32))), .val (.int ((XT.ushr p1 (3 : Int32)) &&& (7 : Int32))), .val (.ref o1), .val (.ref o6), .val (.ref ad13), .val (.int (f0_o13 p1 p2 q3 cz)), .val .null, .val (.int (0 : Int32))] [(.int (0 : Int32)), (.int (fpatn (f0_c13 p1 p2 q3 cz) cz))])) t := by
      intro t k
      by_cases h126 : (fpatn (f0_c13 p1 p2 q3 cz) cz) = (0 : Int32)
      · rw [show (f0_18 p1 p2 q3 cz) = (1 : Int32) from if_pos h126] at k
        show Steps p.tables e below (T122.setTop (mkF m 562 #[.val (.int p1), .val (.int p2), .val (.long q3), .second, .val (.int (p1 &&& (7 : Int32))), .val (.int ((XT.ushr p1 (3 : Int32)) &&& (7 : Int32))), .val (.ref o1), .val (.ref o6), .val (.ref ad13), .val (.int (f0_o13 p1 p2 q3 cz)), .val .null, .val (.int (0 : Int32))] [(.int (0 : Int32)), (.int (fpatn (f0_c13 p1 p2 q3 cz) cz))])) _
        refine XS.icmpNo X122.here hx rfl (hb hby at_562) rfl (teq h126).2 ?_
        show Steps p.tables e below (T122.setTop (mkF m 565 #[.val (.int p1), .val (.int p2), .val (.long q3), .second, .val (.int (p1 &&& (7 : Int32))), .val (.int ((XT.ushr p1 (3 : Int32)) &&& (7 : Int32))), .val (.ref o1), .val (.ref o6), .val (.ref ad13), .val (.int (f0_o13 p1 p2 q3 cz)), .val .null, .val (.int (0 : Int32))] [])) _
        refine XS.iconst X122.here hx rfl (hb hby at_565) ?_
        show Steps p.tables e below (T122.setTop (mkF m 566 #[.val (.int p1), .val (.int p2), .val (.long q3), .second, .val (.int (p1 &&& (7 : Int32))), .val (.int ((XT.ushr p1 (3 : Int32)) &&& (7 : Int32))), .val (.ref o1), .val (.ref o6), .val (.ref ad13), .val (.int (f0_o13 p1 p2 q3 cz)), .val .null, .val (.int (0 : Int32))] [(.int (1 : Int32))])) _
        refine XS.goto X122.here hx rfl (pc0 := 566) (pc' := 570) rfl (hb hby at_566) (by decide) (by decide) ?_
        exact k
      · rw [show (f0_18 p1 p2 q3 cz) = (0 : Int32) from if_neg h126] at k
        show Steps p.tables e below (T122.setTop (mkF m 562 #[.val (.int p1), .val (.int p2), .val (.long q3), .second, .val (.int (p1 &&& (7 : Int32))), .val (.int ((XT.ushr p1 (3 : Int32)) &&& (7 : Int32))), .val (.ref o1), .val (.ref o6), .val (.ref ad13), .val (.int (f0_o13 p1 p2 q3 cz)), .val .null, .val (.int (0 : Int32))] [(.int (0 : Int32)), (.int (fpatn (f0_c13 p1 p2 q3 cz) cz))])) _
        refine XS.icmpYes X122.here hx rfl (pc0 := 562) (pc' := 569) rfl (hb hby at_562) rfl (feq h126).2 (by decide) (by decide) ?_
        show Steps p.tables e below (T122.setTop (mkF m 569 #[.val (.int p1), .val (.int p2), .val (.long q3), .second, .val (.int (p1 &&& (7 : Int32))), .val (.int ((XT.ushr p1 (3 : Int32)) &&& (7 : Int32))), .val (.ref o1), .val (.ref o6), .val (.ref ad13), .val (.int (f0_o13 p1 p2 q3 cz)), .val .null, .val (.int (0 : Int32))] [])) _
        refine XS.iconst X122.here hx rfl (hb hby at_569) ?_
        exact k
    obtain ⟨fs, hr, hrun, hended, hREW⟩ := X122.leaveW hS122 hk122 (v := some (.int ((f0_18 p1 p2 q3 cz) &&& 1))) (fun h => by rw [Bd.returns] at h; cases h)
    refine ⟨_, _, ?_, hrun, hended, _, _, rfl, ?_, (show CHr Z consts_1 s.vm s.heap T122.vm T122.heap from by rw [hh]; exact CR122.trans (CHv.at X122 hZ (own_EW hw) CR122.1)), hREW.1, hREW.2.1, hREW.2.2.1, hREW.2.2.2.mono (by decide) (by decide)⟩
    · show Steps p.tables e below (T13.setTop (mkF m 357 #[.val (.int p1), .val (.int p2), .val (.long q3), .second, .val (.int (p1 &&& (7 : Int32))), .val (.int ((XT.ushr p1 (3 : Int32)) &&& (7 : Int32))), .val (.ref o1), .val (.ref o6), .val (.ref ad13), .val (.int (f0_o13 p1 p2 q3 cz)), .unset, .unset] [])) _
      refine XS.iload X13.here hx rfl (hb hby at_357) rfl ?_
      show Steps p.tables e below (T13.setTop (mkF m 359 #[.val (.int p1), .val (.int p2), .val (.long q3), .second, .val (.int (p1 &&& (7 : Int32))), .val (.int ((XT.ushr p1 (3 : Int32)) &&& (7 : Int32))), .val (.ref o1), .val (.ref o6), .val (.ref ad13), .val (.int (f0_o13 p1 p2 q3 cz)), .unset, .unset] [(.int ((XT.ushr p1 (3 : Int32)) &&& (7 : Int32)))])) _
      refine XS.ifYes X13.here hx rfl (pc0 := 359) (pc' := 372) rfl (hb hby at_359) rfl ((if0 _ _).trans (feq h120).2) (by decide) (by decide) ?_
      show Steps p.tables e below (T13.setTop (mkF m 372 #[.val (.int p1), .val (.int p2), .val (.long q3), .second, .val (.int (p1 &&& (7 : Int32))), .val (.int ((XT.ushr p1 (3 : Int32)) &&& (7 : Int32))), .val (.ref o1), .val (.ref o6), .val (.ref ad13), .val (.int (f0_o13 p1 p2 q3 cz)), .unset, .unset] [])) _
      refine XS.iload X13.here hx rfl (hb hby at_372) rfl ?_
      show Steps p.tables e below (T13.setTop (mkF m 374 #[.val (.int p1), .val (.int p2), .val (.long q3), .second, .val (.int (p1 &&& (7 : Int32))), .val (.int ((XT.ushr p1 (3 : Int32)) &&& (7 : Int32))), .val (.ref o1), .val (.ref o6), .val (.ref ad13), .val (.int (f0_o13 p1 p2 q3 cz)), .unset, .unset] [(.int ((XT.ushr p1 (3 : Int32)) &&& (7 : Int32)))])) _
      refine XS.iconst X13.here hx rfl (hb hby at_374) ?_
      show Steps p.tables e below (T13.setTop (mkF m 375 #[.val (.int p1), .val (.int p2), .val (.long q3), .second, .val (.int (p1 &&& (7 : Int32))), .val (.int ((XT.ushr p1 (3 : Int32)) &&& (7 : Int32))), .val (.ref o1), .val (.ref o6), .val (.ref ad13), .val (.int (f0_o13 p1 p2 q3 cz)), .unset, .unset] [(.int (1 : Int32)), (.int ((XT.ushr p1 (3 : Int32)) &&& (7 : Int32)))])) _
      refine XS.icmpNo X13.here hx rfl (hb hby at_375) rfl (teq h121).2 ?_
      show Steps p.tables e below (T13.setTop (mkF m 378 #[.val (.int p1), .val (.int p2), .val (.long q3), .second, .val (.int (p1 &&& (7 : Int32))), .val (.int ((XT.ushr p1 (3 : Int32)) &&& (7 : Int32))), .val (.ref o1), .val (.ref o6), .val (.ref ad13), .val (.int (f0_o13 p1 p2 q3 cz)), .unset, .unset] [])) _
      refine XS.aconstNull X13.here hx rfl (hb hby at_378) ?_
      show Steps p.tables e below (T13.setTop (mkF m 379 #[.val (.int p1), .val (.int p2), .val (.long q3), .second, .val (.int (p1 &&& (7 : Int32))), .val (.int ((XT.ushr p1 (3 : Int32)) &&& (7 : Int32))), .val (.ref o1), .val (.ref o6), .val (.ref ad13), .val (.int (f0_o13 p1 p2 q3 cz)), .unset, .unset] [.null])) _
      refine XS.astore X13.here hx rfl (hb hby at_379) rfl rfl (l' := #[.val (.int p1), .val (.int p2), .val (.long q3), .second, .val (.int (p1 &&& (7 : Int32))), .val (.int ((XT.ushr p1 (3 : Int32)) &&& (7 : Int32))), .val (.ref o1), .val (.ref o6), .val (.ref ad13), .val (.int (f0_o13 p1 p2 q3 cz)), .val .null, .unset]) rfl ?_
      show Steps p.tables e below (T13.setTop (mkF m 381 #[.val (.int p1), .val (.int p2), .val (.long q3), .second, .val (.int (p1 &&& (7 : Int32))), .val (.int ((XT.ushr p1 (3 : Int32)) &&& (7 : Int32))), .val (.ref o1), .val (.ref o6), .val (.ref ad13), .val (.int (f0_o13 p1 p2 q3 cz)), .val .null, .unset] [])) _
      refine XS.iconst X13.here hx rfl (hb hby at_381) ?_
      show Steps p.tables e below (T13.setTop (mkF m 382 #[.val (.int p1), .val (.int p2), .val (.long q3), .second, .val (.int (p1 &&& (7 : Int32))), .val (.int ((XT.ushr p1 (3 : Int32)) &&& (7 : Int32))), .val (.ref o1), .val (.ref o6), .val (.ref ad13), .val (.int (f0_o13 p1 p2 q3 cz)), .val .null, .unset] [(.int (0 : Int32))])) _
      refine XS.istore X13.here hx rfl (hb hby at_382) rfl (l' := #[.val (.int p1), .val (.int p2), .val (.long q3), .second, .val (.int (p1 &&& (7 : Int32))), .val (.int ((XT.ushr p1 (3 : Int32)) &&& (7 : Int32))), .val (.ref o1), .val (.ref o6), .val (.ref ad13), .val (.int (f0_o13 p1 p2 q3 cz)), .val .null, .val (.int (0 : Int32))]) rfl ?_
      show Steps p.tables e below (T13.setTop (mkF m 384 #[.val (.int p1), .val (.int p2), .val (.long q3), .second, .val (.int (p1 &&& (7 : Int32))), .val (.int ((XT.ushr p1 (3 : Int32)) &&& (7 : Int32))), .val (.ref o1), .val (.ref o6), .val (.ref ad13), .val (.int (f0_o13 p1 p2 q3 cz)), .val .null, .val (.int (0 : Int32))] [])) _
      refine XS.goto X13.here hx rfl (pc0 := 384) (pc' := 540) rfl (hb hby at_384) (by decide) (by decide) ?_
      show Steps p.tables e below (T13.setTop (mkF m 540 #[.val (.int p1), .val (.int p2), .val (.long q3), .second, .val (.int (p1 &&& (7 : Int32))), .val (.int ((XT.ushr p1 (3 : Int32)) &&& (7 : Int32))), .val (.ref o1), .val (.ref o6), .val (.ref ad13), .val (.int (f0_o13 p1 p2 q3 cz)), .val .null, .val (.int (0 : Int32))] [])) _
      refine XS.aload X13.here hx rfl (hb hby at_540) rfl rfl ?_
      show Steps p.tables e below (T13.setTop (mkF m 542 #[.val (.int p1), .val (.int p2), .val (.long q3), .second, .val (.int (p1 &&& (7 : Int32))), .val (.int ((XT.ushr p1 (3 : Int32)) &&& (7 : Int32))), .val (.ref o1), .val (.ref o6), .val (.ref ad13), .val (.int (f0_o13 p1 p2 q3 cz)), .val .null, .val (.int (0 : Int32))] [(.ref ad13)])) _
      refine XS.aload X13.here hx rfl (hb hby at_542) rfl rfl ?_
      show Steps p.tables e below (T13.setTop (mkF m 544 #[.val (.int p1), .val (.int p2), .val (.long q3), .second, .val (.int (p1 &&& (7 : Int32))), .val (.int ((XT.ushr p1 (3 : Int32)) &&& (7 : Int32))), .val (.ref o1), .val (.ref o6), .val (.ref ad13), .val (.int (f0_o13 p1 p2 q3 cz)), .val .null, .val (.int (0 : Int32))] [.null, (.ref ad13)])) _
      refine st122.trans ?_
      show Steps p.tables e below (T122.setTop (mkF m 547 #[.val (.int p1), .val (.int p2), .val (.long q3), .second, .val (.int (p1 &&& (7 : Int32))), .val (.int ((XT.ushr p1 (3 : Int32)) &&& (7 : Int32))), .val (.ref o1), .val (.ref o6), .val (.ref ad13), .val (.int (f0_o13 p1 p2 q3 cz)), .val .null, .val (.int (0 : Int32))] [(.int (fpatn (f0_c13 p1 p2 q3 cz) cz))])) _
      refine XS.iload X122.here hx rfl (hb hby at_547) rfl ?_
      show Steps p.tables e below (T122.setTop (mkF m 549 #[.val (.int p1), .val (.int p2), .val (.long q3), .second, .val (.int (p1 &&& (7 : Int32))), .val (.int ((XT.ushr p1 (3 : Int32)) &&& (7 : Int32))), .val (.ref o1), .val (.ref o6), .val (.ref ad13), .val (.int (f0_o13 p1 p2 q3 cz)), .val .null, .val (.int (0 : Int32))] [(.int (f0_o13 p1 p2 q3 cz)), (.int (fpatn (f0_c13 p1 p2 q3 cz) cz))])) _
      refine st125 _ ?_
      show Steps p.tables e below (T122.setTop (mkF m 562 #[.val (.int p1), .val (.int p2), .val (.long q3), .second, .val (.int (p1 &&& (7 : Int32))), .val (.int ((XT.ushr p1 (3 : Int32)) &&& (7 : Int32))), .val (.ref o1), .val (.ref o6), .val (.ref ad13), .val (.int (f0_o13 p1 p2 q3 cz)), .val .null, .val (.int (0 : Int32))] [(.int (0 : Int32)), (.int (fpatn (f0_c13 p1 p2 q3 cz) cz))])) _
      refine st127 _ ?_
      show Steps p.tables e below (T122.setTop (mkF m 570 #[.val (.int p1), .val (.int p2), .val (.long q3), .second, .val (.int (p1 &&& (7 : Int32))), .val (.int ((XT.ushr p1 (3 : Int32)) &&& (7 : Int32))), .val (.ref o1), .val (.ref o6), .val (.ref ad13), .val (.int (f0_o13 p1 p2 q3 cz)), .val .null, .val (.int (0 : Int32))] [(.int (f0_18 p1 p2 q3 cz))])) _
      exact retN X122 hx (t := .boolean) Bd.returns (by simp) (hb hby at_570) hr
    · show Q0 Z p1 p2 q3 cz h0 n0 _ T122.heap _
      exact ⟨congrArg (fun z => some (Value.int z)) ((show f0 p1 p2 q3 cz = ((f0_18 p1 p2 q3 cz) &&& 1) from by simp only [f0, if_pos hd1]).symm.trans (own_law p1 p2 q3 cz)), N122⟩
  · obtain ⟨T128, vm128, lo128, h128, ad128, kn128, X128, e128, E128, hS128, hk128, hZ, hown, N128, CR128, TT128, st128⟩ : ∃ (T' : State) (vm' : Vm) (lo : List Loc) (h' : Heap) (ad128 : Addr) (k' : Nat) (_ : Stand p l e room_1 (s.setVm vm') m #[(.int p1), (.int p2), (.long q3)] below meth c T' lo 6 66), T'.heap = h' ∧ Ext h13 h' ∧ s.Since vm' k' ∧ k' ≤ h'.size ∧ Z.Warmed39 (s.setVm vm').vm ∧ (s.setVm vm').vm.findClass "com/example/medspan/medspan/OpioidsIsPatchPinLaw" = some m.cls ∧ Fr n0 lo ∧ CHr Z consts_1 s.vm h0 vm' h' ∧ own_Str Z h' ad128 (f0_c128 p1 p2 q3 cz) ∧ ∀ t, Steps p.tables e below (T'.setTop (mkF m 540 #[.val (.int p1), .val (.int p2), .val (.long q3), .second, .val (.int (p1 &&& (7 : Int32))), .val (.int ((XT.ushr p1 (3 : Int32)) &&& (7 : Int32))), .val (.ref o1), .val (.ref o6), .val (.ref ad13), .val (.int (f0_o13 p1 p2 q3 cz)), .val (.ref ad128), .val (.int (f0_o128 p1 p2 q3 cz))] [])) t → Steps p.tables e below (T13.setTop (mkF m 357 #[.val (.int p1), .val (.int p2), .val (.long q3), .second, .val (.int (p1 &&& (7 : Int32))), .val (.int ((XT.ushr p1 (3 : Int32)) &&& (7 : Int32))), .val (.ref o1), .val (.ref o6), .val (.ref ad13), .val (.int (f0_o13 p1 p2 q3 cz)), .unset, .unset] [])) t := by
      by_cases hc128_0 : ((XT.ushr p1 (3 : Int32)) &&& (7 : Int32)) = (0 : Int32)
      · have h129 : ((XT.ushr p1 (3 : Int32)) &&& (7 : Int32)) = (0 : Int32) := hc128_0
        obtain ⟨lit130, T130, h130, kn130, b130, kb130, X130, e130, E130, hS130, hk130, hZ, hown, Ex130, Fc130, Fv130, V130, -, -, CH130, -, -, st130⟩ := ldcCH X13 hx hZ hown (hw _ (List.mem_of_getElem? (i := 10) rfl)) (own_wS hw) e13 hS13 hk13 (own_EW hw) (List.mem_of_getElem? (i := 10) rfl) CR13.1 (vs := [.int (51 : Int32), .int (49 : Int32), .int (54 : Int32), .int (57 : Int32), .int (56 : Int32), .int (55 : Int32)]) (z := (6 : Int32)) ⟨by decide, rfl⟩ (by decide) rfl (g := (mkF m 362 #[.val (.int p1), .val (.int p2), .val (.long q3), .second, .val (.int (p1 &&& (7 : Int32))), .val (.int ((XT.ushr p1 (3 : Int32)) &&& (7 : Int32))), .val (.ref o1), .val (.ref o6), .val (.ref ad13), .val (.int (f0_o13 p1 p2 q3 cz)), .unset, .unset] [])) rfl (hb hby at_362) (n := 24) (by decide) (by decide) (by decide) (by decide)
        have u130_0 := u13_0.ext E130
        have u130_1 := u13_1.ext E130
        have u130_2 := TT13.ext E130
        have u130_3 := (own_Str.exa TT13).ext E130
        have Z130 : n0 ≤ h130.size := Nat.le_trans Z13 E130.1
        have K130 := K13.ext E130
        have OL130 := OL13.ext E130
        have CR130 := CR13.trans CH130
        have T_130 : own_Str Z h130 lit130 ([51, 49, 54, 57, 56, 55] : List Int32) := own_Str.of Ex130 Fv130 Fc130 V130 rfl rfl (by decide) (by decide)
        rw [show (f0_c128 p1 p2 q3 cz) = ([51, 49, 54, 57, 56, 55] : List Int32) from by simp only [f0_c128, if_pos hc128_0], show (f0_o128 p1 p2 q3 cz) = (1 : Int32) from by simp only [f0_o128, if_pos hc128_0]]
        refine ⟨T130, T130.vm, _, h130, lit130, _, X130.more (by decide) (by decide), e130, E130, hS130, hk130, hZ, hown, N13, CR130, T_130, fun t k => ?_⟩
        show Steps p.tables e below (T13.setTop (mkF m 357 #[.val (.int p1), .val (.int p2), .val (.long q3), .second, .val (.int (p1 &&& (7 : Int32))), .val (.int ((XT.ushr p1 (3 : Int32)) &&& (7 : Int32))), .val (.ref o1), .val (.ref o6), .val (.ref ad13), .val (.int (f0_o13 p1 p2 q3 cz)), .unset, .unset] [])) _
        refine XS.iload X13.here hx rfl (hb hby at_357) rfl ?_
        show Steps p.tables e below (T13.setTop (mkF m 359 #[.val (.int p1), .val (.int p2), .val (.long q3), .second, .val (.int (p1 &&& (7 : Int32))), .val (.int ((XT.ushr p1 (3 : Int32)) &&& (7 : Int32))), .val (.ref o1), .val (.ref o6), .val (.ref ad13), .val (.int (f0_o13 p1 p2 q3 cz)), .unset, .unset] [(.int ((XT.ushr p1 (3 : Int32)) &&& (7 : Int32)))])) _
        refine XS.ifNo X13.here hx rfl (hb hby at_359) rfl ((if0 _ _).trans (teq h129).2) ?_
        show Steps p.tables e below (T13.setTop (mkF m 362 #[.val (.int p1), .val (.int p2), .val (.long q3), .second, .val (.int (p1 &&& (7 : Int32))), .val (.int ((XT.ushr p1 (3 : Int32)) &&& (7 : Int32))), .val (.ref o1), .val (.ref o6), .val (.ref ad13), .val (.int (f0_o13 p1 p2 q3 cz)), .unset, .unset] [])) _
        refine st130 _ ?_
        show Steps p.tables e below (T130.setTop (mkF m 364 #[.val (.int p1), .val (.int p2), .val (.long q3), .second, .val (.int (p1 &&& (7 : Int32))), .val (.int ((XT.ushr p1 (3 : Int32)) &&& (7 : Int32))), .val (.ref o1), .val (.ref o6), .val (.ref ad13), .val (.int (f0_o13 p1 p2 q3 cz)), .unset, .unset] [(.ref lit130)])) _
        refine XS.astore X130.here hx rfl (hb hby at_364) rfl rfl (l' := #[.val (.int p1), .val (.int p2), .val (.long q3), .second, .val (.int (p1 &&& (7 : Int32))), .val (.int ((XT.ushr p1 (3 : Int32)) &&& (7 : Int32))), .val (.ref o1), .val (.ref o6), .val (.ref ad13), .val (.int (f0_o13 p1 p2 q3 cz)), .val (.ref lit130), .unset]) rfl ?_
        show Steps p.tables e below (T130.setTop (mkF m 366 #[.val (.int p1), .val (.int p2), .val (.long q3), .second, .val (.int (p1 &&& (7 : Int32))), .val (.int ((XT.ushr p1 (3 : Int32)) &&& (7 : Int32))), .val (.ref o1), .val (.ref o6), .val (.ref ad13), .val (.int (f0_o13 p1 p2 q3 cz)), .val (.ref lit130), .unset] [])) _
        refine XS.iconst X130.here hx rfl (hb hby at_366) ?_
        show Steps p.tables e below (T130.setTop (mkF m 367 #[.val (.int p1), .val (.int p2), .val (.long q3), .second, .val (.int (p1 &&& (7 : Int32))), .val (.int ((XT.ushr p1 (3 : Int32)) &&& (7 : Int32))), .val (.ref o1), .val (.ref o6), .val (.ref ad13), .val (.int (f0_o13 p1 p2 q3 cz)), .val (.ref lit130), .unset] [(.int (1 : Int32))])) _
        refine XS.istore X130.here hx rfl (hb hby at_367) rfl (l' := #[.val (.int p1), .val (.int p2), .val (.long q3), .second, .val (.int (p1 &&& (7 : Int32))), .val (.int ((XT.ushr p1 (3 : Int32)) &&& (7 : Int32))), .val (.ref o1), .val (.ref o6), .val (.ref ad13), .val (.int (f0_o13 p1 p2 q3 cz)), .val (.ref lit130), .val (.int (1 : Int32))]) rfl ?_
        show Steps p.tables e below (T130.setTop (mkF m 369 #[.val (.int p1), .val (.int p2), .val (.long q3), .second, .val (.int (p1 &&& (7 : Int32))), .val (.int ((XT.ushr p1 (3 : Int32)) &&& (7 : Int32))), .val (.ref o1), .val (.ref o6), .val (.ref ad13), .val (.int (f0_o13 p1 p2 q3 cz)), .val (.ref lit130), .val (.int (1 : Int32))] [])) _
        refine XS.goto X130.here hx rfl (pc0 := 369) (pc' := 540) rfl (hb hby at_369) (by decide) (by decide) ?_
        exact k
      · skip
        by_cases hc128_1 : ((XT.ushr p1 (3 : Int32)) &&& (7 : Int32)) = (2 : Int32)
        · have h131 : ¬ (((XT.ushr p1 (3 : Int32)) &&& (7 : Int32)) = (0 : Int32)) := hc128_0
          have h132 : ¬ (((XT.ushr p1 (3 : Int32)) &&& (7 : Int32)) = (1 : Int32)) := hd1
          have h133 : ((XT.ushr p1 (3 : Int32)) &&& (7 : Int32)) = (2 : Int32) := hc128_1
          obtain ⟨lit134, T134, h134, kn134, b134, kb134, X134, e134, E134, hS134, hk134, hZ, hown, Ex134, Fc134, Fv134, V134, -, -, CH134, -, -, st134⟩ := ldcCH X13 hx hZ hown (hw _ (List.mem_of_getElem? (i := 56) rfl)) (own_wS hw) e13 hS13 hk13 (own_EW hw) (List.mem_of_getElem? (i := 11) rfl) CR13.1 (vs := [.int (51 : Int32), .int (49 : Int32), .int (54 : Int32), .int (57 : Int32), .int (57 : Int32), .int (50 : Int32)]) (z := (6 : Int32)) ⟨by decide, rfl⟩ (by decide) rfl (g := (mkF m 393 #[.val (.int p1), .val (.int p2), .val (.long q3), .second, .val (.int (p1 &&& (7 : Int32))), .val (.int ((XT.ushr p1 (3 : Int32)) &&& (7 : Int32))), .val (.ref o1), .val (.ref o6), .val (.ref ad13), .val (.int (f0_o13 p1 p2 q3 cz)), .unset, .unset] [])) rfl (hb hby at_393) (n := 24) (by decide) (by decide) (by decide) (by decide)
          have u134_0 := u13_0.ext E134
          have u134_1 := u13_1.ext E134
          have u134_2 := TT13.ext E134
          have u134_3 := (own_Str.exa TT13).ext E134
          have Z134 : n0 ≤ h134.size := Nat.le_trans Z13 E134.1
          have K134 := K13.ext E134
          have OL134 := OL13.ext E134
          have CR134 := CR13.trans CH134
          have T_134 : own_Str Z h134 lit134 ([51, 49, 54, 57, 57, 50] : List Int32) := own_Str.of Ex134 Fv134 Fc134 V134 rfl rfl (by decide) (by decide)
          rw [show (f0_c128 p1 p2 q3 cz) = ([51, 49, 54, 57, 57, 50] : List Int32) from by simp only [f0_c128, if_neg hc128_0, if_pos hc128_1], show (f0_o128 p1 p2 q3 cz) = (0 : Int32) from by simp only [f0_o128, if_neg hc128_0, if_pos hc128_1]]
          refine ⟨T134, T134.vm, _, h134, lit134, _, X134.more (by decide) (by decide), e134, E134, hS134, hk134, hZ, hown, N13, CR134, T_134, fun t k => ?_⟩
          show Steps p.tables e below (T13.setTop (mkF m 357 #[.val (.int p1), .val (.int p2), .val (.long q3), .second, .val (.int (p1 &&& (7 : Int32))), .val (.int ((XT.ushr p1 (3 : Int32)) &&& (7 : Int32))), .val (.ref o1), .val (.ref o6), .val (.ref ad13), .val (.int (f0_o13 p1 p2 q3 cz)), .unset, .unset] [])) _
          refine XS.iload X13.here hx rfl (hb hby at_357) rfl ?_
          show Steps p.tables e below (T13.setTop (mkF m 359 #[.val (.int p1), .val (.int p2), .val (.long q3), .second, .val (.int (p1 &&& (7 : Int32))), .val (.int ((XT.ushr p1 (3 : Int32)) &&& (7 : Int32))), .val (.ref o1), .val (.ref o6), .val (.ref ad13), .val (.int (f0_o13 p1 p2 q3 cz)), .unset, .unset] [(.int ((XT.ushr p1 (3 : Int32)) &&& (7 : Int32)))])) _
          refine XS.ifYes X13.here hx rfl (pc0 := 359) (pc' := 372) rfl (hb hby at_359) rfl ((if0 _ _).trans (feq h131).2) (by decide) (by decide) ?_
          show Steps p.tables e below (T13.setTop (mkF m 372 #[.val (.int p1), .val (.int p2), .val (.long q3), .second, .val (.int (p1 &&& (7 : Int32))), .val (.int ((XT.ushr p1 (3 : Int32)) &&& (7 : Int32))), .val (.ref o1), .val (.ref o6), .val (.ref ad13), .val (.int (f0_o13 p1 p2 q3 cz)), .unset, .unset] [])) _
          refine XS.iload X13.here hx rfl (hb hby at_372) rfl ?_
          show Steps p.tables e below (T13.setTop (mkF m 374 #[.val (.int p1), .val (.int p2), .val (.long q3), .second, .val (.int (p1 &&& (7 : Int32))), .val (.int ((XT.ushr p1 (3 : Int32)) &&& (7 : Int32))), .val (.ref o1), .val (.ref o6), .val (.ref ad13), .val (.int (f0_o13 p1 p2 q3 cz)), .unset, .unset] [(.int ((XT.ushr p1 (3 : Int32)) &&& (7 : Int32)))])) _
          refine XS.iconst X13.here hx rfl (hb hby at_374) ?_
          show Steps p.tables e below (T13.setTop (mkF m 375 #[.val (.int p1), .val (.int p2), .val (.long q3), .second, .val (.int (p1 &&& (7 : Int32))), .val (.int ((XT.ushr p1 (3 : Int32)) &&& (7 : Int32))), .val (.ref o1), .val (.ref o6), .val (.ref ad13), .val (.int (f0_o13 p1 p2 q3 cz)), .unset, .unset] [(.int (1 : Int32)), (.int ((XT.ushr p1 (3 : Int32)) &&& (7 : Int32)))])) _
          refine XS.icmpYes X13.here hx rfl (pc0 := 375) (pc' := 387) rfl (hb hby at_375) rfl (feq h132).2 (by decide) (by decide) ?_
          show Steps p.tables e below (T13.setTop (mkF m 387 #[.val (.int p1), .val (.int p2), .val (.long q3), .second, .val (.int (p1 &&& (7 : Int32))), .val (.int ((XT.ushr p1 (3 : Int32)) &&& (7 : Int32))), .val (.ref o1), .val (.ref o6), .val (.ref ad13), .val (.int (f0_o13 p1 p2 q3 cz)), .unset, .unset] [])) _
          refine XS.iload X13.here hx rfl (hb hby at_387) rfl ?_
          show Steps p.tables e below (T13.setTop (mkF m 389 #[.val (.int p1), .val (.int p2), .val (.long q3), .second, .val (.int (p1 &&& (7 : Int32))), .val (.int ((XT.ushr p1 (3 : Int32)) &&& (7 : Int32))), .val (.ref o1), .val (.ref o6), .val (.ref ad13), .val (.int (f0_o13 p1 p2 q3 cz)), .unset, .unset] [(.int ((XT.ushr p1 (3 : Int32)) &&& (7 : Int32)))])) _
          refine XS.iconst X13.here hx rfl (hb hby at_389) ?_
          show Steps p.tables e below (T13.setTop (mkF m 390 #[.val (.int p1), .val (.int p2), .val (.long q3), .second, .val (.int (p1 &&& (7 : Int32))), .val (.int ((XT.ushr p1 (3 : Int32)) &&& (7 : Int32))), .val (.ref o1), .val (.ref o6), .val (.ref ad13), .val (.int (f0_o13 p1 p2 q3 cz)), .unset, .unset] [(.int (2 : Int32)), (.int ((XT.ushr p1 (3 : Int32)) &&& (7 : Int32)))])) _
          refine XS.icmpNo X13.here hx rfl (hb hby at_390) rfl (teq h133).2 ?_
          show Steps p.tables e below (T13.setTop (mkF m 393 #[.val (.int p1), .val (.int p2), .val (.long q3), .second, .val (.int (p1 &&& (7 : Int32))), .val (.int ((XT.ushr p1 (3 : Int32)) &&& (7 : Int32))), .val (.ref o1), .val (.ref o6), .val (.ref ad13), .val (.int (f0_o13 p1 p2 q3 cz)), .unset, .unset] [])) _
          refine st134 _ ?_
          show Steps p.tables e below (T134.setTop (mkF m 395 #[.val (.int p1), .val (.int p2), .val (.long q3), .second, .val (.int (p1 &&& (7 : Int32))), .val (.int ((XT.ushr p1 (3 : Int32)) &&& (7 : Int32))), .val (.ref o1), .val (.ref o6), .val (.ref ad13), .val (.int (f0_o13 p1 p2 q3 cz)), .unset, .unset] [(.ref lit134)])) _
          refine XS.astore X134.here hx rfl (hb hby at_395) rfl rfl (l' := #[.val (.int p1), .val (.int p2), .val (.long q3), .second, .val (.int (p1 &&& (7 : Int32))), .val (.int ((XT.ushr p1 (3 : Int32)) &&& (7 : Int32))), .val (.ref o1), .val (.ref o6), .val (.ref ad13), .val (.int (f0_o13 p1 p2 q3 cz)), .val (.ref lit134), .unset]) rfl ?_
          show Steps p.tables e below (T134.setTop (mkF m 397 #[.val (.int p1), .val (.int p2), .val (.long q3), .second, .val (.int (p1 &&& (7 : Int32))), .val (.int ((XT.ushr p1 (3 : Int32)) &&& (7 : Int32))), .val (.ref o1), .val (.ref o6), .val (.ref ad13), .val (.int (f0_o13 p1 p2 q3 cz)), .val (.ref lit134), .unset] [])) _
          refine XS.iconst X134.here hx rfl (hb hby at_397) ?_
          show Steps p.tables e below (T134.setTop (mkF m 398 #[.val (.int p1), .val (.int p2), .val (.long q3), .second, .val (.int (p1 &&& (7 : Int32))), .val (.int ((XT.ushr p1 (3 : Int32)) &&& (7 : Int32))), .val (.ref o1), .val (.ref o6), .val (.ref ad13), .val (.int (f0_o13 p1 p2 q3 cz)), .val (.ref lit134), .unset] [(.int (0 : Int32))])) _
          refine XS.istore X134.here hx rfl (hb hby at_398) rfl (l' := #[.val (.int p1), .val (.int p2), .val (.long q3), .second, .val (.int (p1 &&& (7 : Int32))), .val (.int ((XT.ushr p1 (3 : Int32)) &&& (7 : Int32))), .val (.ref o1), .val (.ref o6), .val (.ref ad13), .val (.int (f0_o13 p1 p2 q3 cz)), .val (.ref lit134), .val (.int (0 : Int32))]) rfl ?_
          show Steps p.tables e below (T134.setTop (mkF m 400 #[.val (.int p1), .val (.int p2), .val (.long q3), .second, .val (.int (p1 &&& (7 : Int32))), .val (.int ((XT.ushr p1 (3 : Int32)) &&& (7 : Int32))), .val (.ref o1), .val (.ref o6), .val (.ref ad13), .val (.int (f0_o13 p1 p2 q3 cz)), .val (.ref lit134), .val (.int (0 : Int32))] [])) _
          refine XS.goto X134.here hx rfl (pc0 := 400) (pc' := 540) rfl (hb hby at_400) (by decide) (by decide) ?_
          exact k
        · skip
          by_cases hc128_2 : ((XT.ushr p1 (3 : Int32)) &&& (7 : Int32)) = (3 : Int32)
          · have h135 : ¬ (((XT.ushr p1 (3 : Int32)) &&& (7 : Int32)) = (0 : Int32)) := hc128_0
            have h136 : ¬ (((XT.ushr p1 (3 : Int32)) &&& (7 : Int32)) = (1 : Int32)) := hd1
            have h137 : ¬ (((XT.ushr p1 (3 : Int32)) &&& (7 : Int32)) = (2 : Int32)) := hc128_1
            have h138 : ((XT.ushr p1 (3 : Int32)) &&& (7 : Int32)) = (3 : Int32) := hc128_2
            obtain ⟨lit139, T139, h139, kn139, b139, kb139, X139, e139, E139, hS139, hk139, hZ, hown, Ex139, Fc139, Fv139, V139, -, -, CH139, -, -, st139⟩ := ldcCH X13 hx hZ hown (hw _ (List.mem_of_getElem? (i := 47) rfl)) (own_wS hw) e13 hS13 hk13 (own_EW hw) (List.mem_of_getElem? (i := 9) rfl) CR13.1 (vs := []) (z := (0 : Int32)) ⟨by decide, rfl⟩ (by decide) rfl (g := (mkF m 409 #[.val (.int p1), .val (.int p2), .val (.long q3), .second, .val (.int (p1 &&& (7 : Int32))), .val (.int ((XT.ushr p1 (3 : Int32)) &&& (7 : Int32))), .val (.ref o1), .val (.ref o6), .val (.ref ad13), .val (.int (f0_o13 p1 p2 q3 cz)), .unset, .unset] [])) rfl (hb hby at_409) (n := 0) (by decide) (by decide) (by decide) (by decide)
            have u139_0 := u13_0.ext E139
            have u139_1 := u13_1.ext E139
            have u139_2 := TT13.ext E139
            have u139_3 := (own_Str.exa TT13).ext E139
            have Z139 : n0 ≤ h139.size := Nat.le_trans Z13 E139.1
            have K139 := K13.ext E139
            have OL139 := OL13.ext E139
            have CR139 := CR13.trans CH139
            have T_139 : own_Str Z h139 lit139 ([] : List Int32) := own_Str.of Ex139 Fv139 Fc139 V139 rfl rfl (by decide) (by decide)
            rw [show (f0_c128 p1 p2 q3 cz) = ([] : List Int32) from by simp only [f0_c128, if_neg hc128_0, if_neg hc128_1, if_pos hc128_2], show (f0_o128 p1 p2 q3 cz) = (0 : Int32) from by simp only [f0_o128, if_neg hc128_0, if_neg hc128_1, if_pos hc128_2]]
            refine ⟨T139, T139.vm, _, h139, lit139, _, X139.more (by decide) (by decide), e139, E139, hS139, hk139, hZ, hown, N13, CR139, T_139, fun t k => ?_⟩
            show Steps p.tables e below (T13.setTop (mkF m 357 #[.val (.int p1), .val (.int p2), .val (.long q3), .second, .val (.int (p1 &&& (7 : Int32))), .val (.int ((XT.ushr p1 (3 : Int32)) &&& (7 : Int32))), .val (.ref o1), .val (.ref o6), .val (.ref ad13), .val (.int (f0_o13 p1 p2 q3 cz)), .unset, .unset] [])) _
            refine XS.iload X13.here hx rfl (hb hby at_357) rfl ?_
            show Steps p.tables e below (T13.setTop (mkF m 359 #[.val (.int p1), .val (.int p2), .val (.long q3), .second, .val (.int (p1 &&& (7 : Int32))), .val (.int ((XT.ushr p1 (3 : Int32)) &&& (7 : Int32))), .val (.ref o1), .val (.ref o6), .val (.ref ad13), .val (.int (f0_o13 p1 p2 q3 cz)), .unset, .unset] [(.int ((XT.ushr p1 (3 : Int32)) &&& (7 : Int32)))])) _
            refine XS.ifYes X13.here hx rfl (pc0 := 359) (pc' := 372) rfl (hb hby at_359) rfl ((if0 _ _).trans (feq h135).2) (by decide) (by decide) ?_
            show Steps p.tables e below (T13.setTop (mkF m 372 #[.val (.int p1), .val (.int p2), .val (.long q3), .second, .val (.int (p1 &&& (7 : Int32))), .val (.int ((XT.ushr p1 (3 : Int32)) &&& (7 : Int32))), .val (.ref o1), .val (.ref o6), .val (.ref ad13), .val (.int (f0_o13 p1 p2 q3 cz)), .unset, .unset] [])) _
            refine XS.iload X13.here hx rfl (hb hby at_372) rfl ?_
            show Steps p.tables e below (T13.setTop (mkF m 374 #[.val (.int p1), .val (.int p2), .val (.long q3), .second, .val (.int (p1 &&& (7 : Int32))), .val (.int ((XT.ushr p1 (3 : Int32)) &&& (7 : Int32))), .val (.ref o1), .val (.ref o6), .val (.ref ad13), .val (.int (f0_o13 p1 p2 q3 cz)), .unset, .unset] [(.int ((XT.ushr p1 (3 : Int32)) &&& (7 : Int32)))])) _
            refine XS.iconst X13.here hx rfl (hb hby at_374) ?_
            show Steps p.tables e below (T13.setTop (mkF m 375 #[.val (.int p1), .val (.int p2), .val (.long q3), .second, .val (.int (p1 &&& (7 : Int32))), .val (.int ((XT.ushr p1 (3 : Int32)) &&& (7 : Int32))), .val (.ref o1), .val (.ref o6), .val (.ref ad13), .val (.int (f0_o13 p1 p2 q3 cz)), .unset, .unset] [(.int (1 : Int32)), (.int ((XT.ushr p1 (3 : Int32)) &&& (7 : Int32)))])) _
            refine XS.icmpYes X13.here hx rfl (pc0 := 375) (pc' := 387) rfl (hb hby at_375) rfl (feq h136).2 (by decide) (by decide) ?_
            show Steps p.tables e below (T13.setTop (mkF m 387 #[.val (.int p1), .val (.int p2), .val (.long q3), .second, .val (.int (p1 &&& (7 : Int32))), .val (.int ((XT.ushr p1 (3 : Int32)) &&& (7 : Int32))), .val (.ref o1), .val (.ref o6), .val (.ref ad13), .val (.int (f0_o13 p1 p2 q3 cz)), .unset, .unset] [])) _
            refine XS.iload X13.here hx rfl (hb hby at_387) rfl ?_
            show Steps p.tables e below (T13.setTop (mkF m 389 #[.val (.int p1), .val (.int p2), .val (.long q3), .second, .val (.int (p1 &&& (7 : Int32))), .val (.int ((XT.ushr p1 (3 : Int32)) &&& (7 : Int32))), .val (.ref o1), .val (.ref o6), .val (.ref ad13), .val (.int (f0_o13 p1 p2 q3 cz)), .unset, .unset] [(.int ((XT.ushr p1 (3 : Int32)) &&& (7 : Int32)))])) _
            refine XS.iconst X13.here hx rfl (hb hby at_389) ?_
            show Steps p.tables e below (T13.setTop (mkF m 390 #[.val (.int p1), .val (.int p2), .val (.long q3), .second, .val (.int (p1 &&& (7 : Int32))), .val (.int ((XT.ushr p1 (3 : Int32)) &&& (7 : Int32))), .val (.ref o1), .val (.ref o6), .val (.ref ad13), .val (.int (f0_o13 p1 p2 q3 cz)), .unset, .unset] [(.int (2 : Int32)), (.int ((XT.ushr p1 (3 : Int32)) &&& (7 : Int32)))])) _
            refine XS.icmpYes X13.here hx rfl (pc0 := 390) (pc' := 403) rfl (hb hby at_390) rfl (feq h137).2 (by decide) (by decide) ?_
            show Steps p.tables e below (T13.setTop (mkF m 403 #[.val (.int p1), .val (.int p2), .val (.long q3), .second, .val (.int (p1 &&& (7 : Int32))), .val (.int ((XT.ushr p1 (3 : Int32)) &&& (7 : Int32))), .val (.ref o1), .val (.ref o6), .val (.ref ad13), .val (.int (f0_o13 p1 p2 q3 cz)), .unset, .unset] [])) _
            refine XS.iload X13.here hx rfl (hb hby at_403) rfl ?_
            show Steps p.tables e below (T13.setTop (mkF m 405 #[.val (.int p1), .val (.int p2), .val (.long q3), .second, .val (.int (p1 &&& (7 : Int32))), .val (.int ((XT.ushr p1 (3 : Int32)) &&& (7 : Int32))), .val (.ref o1), .val (.ref o6), .val (.ref ad13), .val (.int (f0_o13 p1 p2 q3 cz)), .unset, .unset] [(.int ((XT.ushr p1 (3 : Int32)) &&& (7 : Int32)))])) _
            refine XS.iconst X13.here hx rfl (hb hby at_405) ?_
            show Steps p.tables e below (T13.setTop (mkF m 406 #[.val (.int p1), .val (.int p2), .val (.long q3), .second, .val (.int (p1 &&& (7 : Int32))), .val (.int ((XT.ushr p1 (3 : Int32)) &&& (7 : Int32))), .val (.ref o1), .val (.ref o6), .val (.ref ad13), .val (.int (f0_o13 p1 p2 q3 cz)), .unset, .unset] [(.int (3 : Int32)), (.int ((XT.ushr p1 (3 : Int32)) &&& (7 : Int32)))])) _
            refine XS.icmpNo X13.here hx rfl (hb hby at_406) rfl (teq h138).2 ?_
            show Steps p.tables e below (T13.setTop (mkF m 409 #[.val (.int p1), .val (.int p2), .val (.long q3), .second, .val (.int (p1 &&& (7 : Int32))), .val (.int ((XT.ushr p1 (3 : Int32)) &&& (7 : Int32))), .val (.ref o1), .val (.ref o6), .val (.ref ad13), .val (.int (f0_o13 p1 p2 q3 cz)), .unset, .unset] [])) _
            refine st139 _ ?_
            show Steps p.tables e below (T139.setTop (mkF m 411 #[.val (.int p1), .val (.int p2), .val (.long q3), .second, .val (.int (p1 &&& (7 : Int32))), .val (.int ((XT.ushr p1 (3 : Int32)) &&& (7 : Int32))), .val (.ref o1), .val (.ref o6), .val (.ref ad13), .val (.int (f0_o13 p1 p2 q3 cz)), .unset, .unset] [(.ref lit139)])) _
            refine XS.astore X139.here hx rfl (hb hby at_411) rfl rfl (l' := #[.val (.int p1), .val (.int p2), .val (.long q3), .second, .val (.int (p1 &&& (7 : Int32))), .val (.int ((XT.ushr p1 (3 : Int32)) &&& (7 : Int32))), .val (.ref o1), .val (.ref o6), .val (.ref ad13), .val (.int (f0_o13 p1 p2 q3 cz)), .val (.ref lit139), .unset]) rfl ?_
            show Steps p.tables e below (T139.setTop (mkF m 413 #[.val (.int p1), .val (.int p2), .val (.long q3), .second, .val (.int (p1 &&& (7 : Int32))), .val (.int ((XT.ushr p1 (3 : Int32)) &&& (7 : Int32))), .val (.ref o1), .val (.ref o6), .val (.ref ad13), .val (.int (f0_o13 p1 p2 q3 cz)), .val (.ref lit139), .unset] [])) _
            refine XS.iconst X139.here hx rfl (hb hby at_413) ?_
            show Steps p.tables e below (T139.setTop (mkF m 414 #[.val (.int p1), .val (.int p2), .val (.long q3), .second, .val (.int (p1 &&& (7 : Int32))), .val (.int ((XT.ushr p1 (3 : Int32)) &&& (7 : Int32))), .val (.ref o1), .val (.ref o6), .val (.ref ad13), .val (.int (f0_o13 p1 p2 q3 cz)), .val (.ref lit139), .unset] [(.int (0 : Int32))])) _
            refine XS.istore X139.here hx rfl (hb hby at_414) rfl (l' := #[.val (.int p1), .val (.int p2), .val (.long q3), .second, .val (.int (p1 &&& (7 : Int32))), .val (.int ((XT.ushr p1 (3 : Int32)) &&& (7 : Int32))), .val (.ref o1), .val (.ref o6), .val (.ref ad13), .val (.int (f0_o13 p1 p2 q3 cz)), .val (.ref lit139), .val (.int (0 : Int32))]) rfl ?_
            show Steps p.tables e below (T139.setTop (mkF m 416 #[.val (.int p1), .val (.int p2), .val (.long q3), .second, .val (.int (p1 &&& (7 : Int32))), .val (.int ((XT.ushr p1 (3 : Int32)) &&& (7 : Int32))), .val (.ref o1), .val (.ref o6), .val (.ref ad13), .val (.int (f0_o13 p1 p2 q3 cz)), .val (.ref lit139), .val (.int (0 : Int32))] [])) _
            refine XS.goto X139.here hx rfl (pc0 := 416) (pc' := 540) rfl (hb hby at_416) (by decide) (by decide) ?_
            exact k
          · skip
            by_cases hc128_3 : ((XT.ushr p1 (3 : Int32)) &&& (7 : Int32)) = (4 : Int32)
            · have h140 : ¬ (((XT.ushr p1 (3 : Int32)) &&& (7 : Int32)) = (0 : Int32)) := hc128_0
              have h141 : ¬ (((XT.ushr p1 (3 : Int32)) &&& (7 : Int32)) = (1 : Int32)) := hd1
              have h142 : ¬ (((XT.ushr p1 (3 : Int32)) &&& (7 : Int32)) = (2 : Int32)) := hc128_1
              have h143 : ¬ (((XT.ushr p1 (3 : Int32)) &&& (7 : Int32)) = (3 : Int32)) := hc128_2
              have h144 : ((XT.ushr p1 (3 : Int32)) &&& (7 : Int32)) = (4 : Int32) := hc128_3
              obtain ⟨lit145, T145, h145, kn145, b145, kb145, X145, e145, E145, hS145, hk145, hZ, hown, Ex145, Fc145, Fv145, V145, -, -, CH145, -, -, st145⟩ := ldcCH X13 hx hZ hown (hw _ (List.mem_of_getElem? (i := 60) rfl)) (own_wS hw) e13 hS13 hk13 (own_EW hw) (List.mem_of_getElem? (i := 12) rfl) CR13.1 (vs := [.int (51 : Int32), .int (49 : Int32), .int (54 : Int32), .int (57 : Int32), .int (56 : Int32), .int (55 : Int32), .int (48 : Int32)]) (z := (7 : Int32)) ⟨by decide, rfl⟩ (by decide) rfl (g := (mkF m 425 #[.val (.int p1), .val (.int p2), .val (.long q3), .second, .val (.int (p1 &&& (7 : Int32))), .val (.int ((XT.ushr p1 (3 : Int32)) &&& (7 : Int32))), .val (.ref o1), .val (.ref o6), .val (.ref ad13), .val (.int (f0_o13 p1 p2 q3 cz)), .unset, .unset] [])) rfl (hb hby at_425) (n := 28) (by decide) (by decide) (by decide) (by decide)
              have u145_0 := u13_0.ext E145
              have u145_1 := u13_1.ext E145
              have u145_2 := TT13.ext E145
              have u145_3 := (own_Str.exa TT13).ext E145
              have Z145 : n0 ≤ h145.size := Nat.le_trans Z13 E145.1
              have K145 := K13.ext E145
              have OL145 := OL13.ext E145
              have CR145 := CR13.trans CH145
              have T_145 : own_Str Z h145 lit145 ([51, 49, 54, 57, 56, 55, 48] : List Int32) := own_Str.of Ex145 Fv145 Fc145 V145 rfl rfl (by decide) (by decide)
              rw [show (f0_c128 p1 p2 q3 cz) = ([51, 49, 54, 57, 56, 55, 48] : List Int32) from by simp only [f0_c128, if_neg hc128_0, if_neg hc128_1, if_neg hc128_2, if_pos hc128_3], show (f0_o128 p1 p2 q3 cz) = (0 : Int32) from by simp only [f0_o128, if_neg hc128_0, if_neg hc128_1, if_neg hc128_2, if_pos hc128_3]]
              refine ⟨T145, T145.vm, _, h145, lit145, _, X145.more (by decide) (by decide), e145, E145, hS145, hk145, hZ, hown, N13, CR145, T_145, fun t k => ?_⟩
              show Steps p.tables e below (T13.setTop (mkF m 357 #[.val (.int p1), .val (.int p2), .val (.long q3), .second, .val (.int (p1 &&& (7 : Int32))), .val (.int ((XT.ushr p1 (3 : Int32)) &&& (7 : Int32))), .val (.ref o1), .val (.ref o6), .val (.ref ad13), .val (.int (f0_o13 p1 p2 q3 cz)), .unset, .unset] [])) _
              refine XS.iload X13.here hx rfl (hb hby at_357) rfl ?_
              show Steps p.tables e below (T13.setTop (mkF m 359 #[.val (.int p1), .val (.int p2), .val (.long q3), .second, .val (.int (p1 &&& (7 : Int32))), .val (.int ((XT.ushr p1 (3 : Int32)) &&& (7 : Int32))), .val (.ref o1), .val (.ref o6), .val (.ref ad13), .val (.int (f0_o13 p1 p2 q3 cz)), .unset, .unset] [(.int ((XT.ushr p1 (3 : Int32)) &&& (7 : Int32)))])) _
              refine XS.ifYes X13.here hx rfl (pc0 := 359) (pc' := 372) rfl (hb hby at_359) rfl ((if0 _ _).trans (feq h140).2) (by decide) (by decide) ?_
              show Steps p.tables e below (T13.setTop (mkF m 372 #[.val (.int p1), .val (.int p2), .val (.long q3), .second, .val (.int (p1 &&& (7 : Int32))), .val (.int ((XT.ushr p1 (3 : Int32)) &&& (7 : Int32))), .val (.ref o1), .val (.ref o6), .val (.ref ad13), .val (.int (f0_o13 p1 p2 q3 cz)), .unset, .unset] [])) _
              refine XS.iload X13.here hx rfl (hb hby at_372) rfl ?_
              show Steps p.tables e below (T13.setTop (mkF m 374 #[.val (.int p1), .val (.int p2), .val (.long q3), .second, .val (.int (p1 &&& (7 : Int32))), .val (.int ((XT.ushr p1 (3 : Int32)) &&& (7 : Int32))), .val (.ref o1), .val (.ref o6), .val (.ref ad13), .val (.int (f0_o13 p1 p2 q3 cz)), .unset, .unset] [(.int ((XT.ushr p1 (3 : Int32)) &&& (7 : Int32)))])) _
              refine XS.iconst X13.here hx rfl (hb hby at_374) ?_
              show Steps p.tables e below (T13.setTop (mkF m 375 #[.val (.int p1), .val (.int p2), .val (.long q3), .second, .val (.int (p1 &&& (7 : Int32))), .val (.int ((XT.ushr p1 (3 : Int32)) &&& (7 : Int32))), .val (.ref o1), .val (.ref o6), .val (.ref ad13), .val (.int (f0_o13 p1 p2 q3 cz)), .unset, .unset] [(.int (1 : Int32)), (.int ((XT.ushr p1 (3 : Int32)) &&& (7 : Int32)))])) _
              refine XS.icmpYes X13.here hx rfl (pc0 := 375) (pc' := 387) rfl (hb hby at_375) rfl (feq h141).2 (by decide) (by decide) ?_
              show Steps p.tables e below (T13.setTop (mkF m 387 #[.val (.int p1), .val (.int p2), .val (.long q3), .second, .val (.int (p1 &&& (7 : Int32))), .val (.int ((XT.ushr p1 (3 : Int32)) &&& (7 : Int32))), .val (.ref o1), .val (.ref o6), .val (.ref ad13), .val (.int (f0_o13 p1 p2 q3 cz)), .unset, .unset] [])) _
              refine XS.iload X13.here hx rfl (hb hby at_387) rfl ?_
              show Steps p.tables e below (T13.setTop (mkF m 389 #[.val (.int p1), .val (.int p2), .val (.long q3), .second, .val (.int (p1 &&& (7 : Int32))), .val (.int ((XT.ushr p1 (3 : Int32)) &&& (7 : Int32))), .val (.ref o1), .val (.ref o6), .val (.ref ad13), .val (.int (f0_o13 p1 p2 q3 cz)), .unset, .unset] [(.int ((XT.ushr p1 (3 : Int32)) &&& (7 : Int32)))])) _
              refine XS.iconst X13.here hx rfl (hb hby at_389) ?_
              show Steps p.tables e below (T13.setTop (mkF m 390 #[.val (.int p1), .val (.int p2), .val (.long q3), .second, .val (.int (p1 &&& (7 : Int32))), .val (.int ((XT.ushr p1 (3 : Int32)) &&& (7 : Int32))), .val (.ref o1), .val (.ref o6), .val (.ref ad13), .val (.int (f0_o13 p1 p2 q3 cz)), .unset, .unset] [(.int (2 : Int32)), (.int ((XT.ushr p1 (3 : Int32)) &&& (7 : Int32)))])) _
              refine XS.icmpYes X13.here hx rfl (pc0 := 390) (pc' := 403) rfl (hb hby at_390) rfl (feq h142).2 (by decide) (by decide) ?_
              show Steps p.tables e below (T13.setTop (mkF m 403 #[.val (.int p1), .val (.int p2), .val (.long q3), .second, .val (.int (p1 &&& (7 : Int32))), .val (.int ((XT.ushr p1 (3 : Int32)) &&& (7 : Int32))), .val (.ref o1), .val (.ref o6), .val (.ref ad13), .val (.int (f0_o13 p1 p2 q3 cz)), .unset, .unset] [])) _
              refine XS.iload X13.here hx rfl (hb hby at_403) rfl ?_
              show Steps p.tables e below (T13.setTop (mkF m 405 #[.val (.int p1), .val (.int p2), .val (.long q3), .second, .val (.int (p1 &&& (7 : Int32))), .val (.int ((XT.ushr p1 (3 : Int32)) &&& (7 : Int32))), .val (.ref o1), .val (.ref o6), .val (.ref ad13), .val (.int (f0_o13 p1 p2 q3 cz)), .unset, .unset] [(.int ((XT.ushr p1 (3 : Int32)) &&& (7 : Int32)))])) _
              refine XS.iconst X13.here hx rfl (hb hby at_405) ?_
              show Steps p.tables e below (T13.setTop (mkF m 406 #[.val (.int p1), .val (.int p2), .val (.long q3), .second, .val (.int (p1 &&& (7 : Int32))), .val (.int ((XT.ushr p1 (3 : Int32)) &&& (7 : Int32))), .val (.ref o1), .val (.ref o6), .val (.ref ad13), .val (.int (f0_o13 p1 p2 q3 cz)), .unset, .unset] [(.int (3 : Int32)), (.int ((XT.ushr p1 (3 : Int32)) &&& (7 : Int32)))])) _
              refine XS.icmpYes X13.here hx rfl (pc0 := 406) (pc' := 419) rfl (hb hby at_406) rfl (feq h143).2 (by decide) (by decide) ?_
              show Steps p.tables e below (T13.setTop (mkF m 419 #[.val (.int p1), .val (.int p2), .val (.long q3), .second, .val (.int (p1 &&& (7 : Int32))), .val (.int ((XT.ushr p1 (3 : Int32)) &&& (7 : Int32))), .val (.ref o1), .val (.ref o6), .val (.ref ad13), .val (.int (f0_o13 p1 p2 q3 cz)), .unset, .unset] [])) _
              refine XS.iload X13.here hx rfl (hb hby at_419) rfl ?_
              show Steps p.tables e below (T13.setTop (mkF m 421 #[.val (.int p1), .val (.int p2), .val (.long q3), .second, .val (.int (p1 &&& (7 : Int32))), .val (.int ((XT.ushr p1 (3 : Int32)) &&& (7 : Int32))), .val (.ref o1), .val (.ref o6), .val (.ref ad13), .val (.int (f0_o13 p1 p2 q3 cz)), .unset, .unset] [(.int ((XT.ushr p1 (3 : Int32)) &&& (7 : Int32)))])) _
              refine XS.iconst X13.here hx rfl (hb hby at_421) ?_
              show Steps p.tables e below (T13.setTop (mkF m 422 #[.val (.int p1), .val (.int p2), .val (.long q3), .second, .val (.int (p1 &&& (7 : Int32))), .val (.int ((XT.ushr p1 (3 : Int32)) &&& (7 : Int32))), .val (.ref o1), .val (.ref o6), .val (.ref ad13), .val (.int (f0_o13 p1 p2 q3 cz)), .unset, .unset] [(.int (4 : Int32)), (.int ((XT.ushr p1 (3 : Int32)) &&& (7 : Int32)))])) _
              refine XS.icmpNo X13.here hx rfl (hb hby at_422) rfl (teq h144).2 ?_
              show Steps p.tables e below (T13.setTop (mkF m 425 #[.val (.int p1), .val (.int p2), .val (.long q3), .second, .val (.int (p1 &&& (7 : Int32))), .val (.int ((XT.ushr p1 (3 : Int32)) &&& (7 : Int32))), .val (.ref o1), .val (.ref o6), .val (.ref ad13), .val (.int (f0_o13 p1 p2 q3 cz)), .unset, .unset] [])) _
              refine st145 _ ?_
              show Steps p.tables e below (T145.setTop (mkF m 427 #[.val (.int p1), .val (.int p2), .val (.long q3), .second, .val (.int (p1 &&& (7 : Int32))), .val (.int ((XT.ushr p1 (3 : Int32)) &&& (7 : Int32))), .val (.ref o1), .val (.ref o6), .val (.ref ad13), .val (.int (f0_o13 p1 p2 q3 cz)), .unset, .unset] [(.ref lit145)])) _
              refine XS.astore X145.here hx rfl (hb hby at_427) rfl rfl (l' := #[.val (.int p1), .val (.int p2), .val (.long q3), .second, .val (.int (p1 &&& (7 : Int32))), .val (.int ((XT.ushr p1 (3 : Int32)) &&& (7 : Int32))), .val (.ref o1), .val (.ref o6), .val (.ref ad13), .val (.int (f0_o13 p1 p2 q3 cz)), .val (.ref lit145), .unset]) rfl ?_
              show Steps p.tables e below (T145.setTop (mkF m 429 #[.val (.int p1), .val (.int p2), .val (.long q3), .second, .val (.int (p1 &&& (7 : Int32))), .val (.int ((XT.ushr p1 (3 : Int32)) &&& (7 : Int32))), .val (.ref o1), .val (.ref o6), .val (.ref ad13), .val (.int (f0_o13 p1 p2 q3 cz)), .val (.ref lit145), .unset] [])) _
              refine XS.iconst X145.here hx rfl (hb hby at_429) ?_
              show Steps p.tables e below (T145.setTop (mkF m 430 #[.val (.int p1), .val (.int p2), .val (.long q3), .second, .val (.int (p1 &&& (7 : Int32))), .val (.int ((XT.ushr p1 (3 : Int32)) &&& (7 : Int32))), .val (.ref o1), .val (.ref o6), .val (.ref ad13), .val (.int (f0_o13 p1 p2 q3 cz)), .val (.ref lit145), .unset] [(.int (0 : Int32))])) _
              refine XS.istore X145.here hx rfl (hb hby at_430) rfl (l' := #[.val (.int p1), .val (.int p2), .val (.long q3), .second, .val (.int (p1 &&& (7 : Int32))), .val (.int ((XT.ushr p1 (3 : Int32)) &&& (7 : Int32))), .val (.ref o1), .val (.ref o6), .val (.ref ad13), .val (.int (f0_o13 p1 p2 q3 cz)), .val (.ref lit145), .val (.int (0 : Int32))]) rfl ?_
              show Steps p.tables e below (T145.setTop (mkF m 432 #[.val (.int p1), .val (.int p2), .val (.long q3), .second, .val (.int (p1 &&& (7 : Int32))), .val (.int ((XT.ushr p1 (3 : Int32)) &&& (7 : Int32))), .val (.ref o1), .val (.ref o6), .val (.ref ad13), .val (.int (f0_o13 p1 p2 q3 cz)), .val (.ref lit145), .val (.int (0 : Int32))] [])) _
              refine XS.goto X145.here hx rfl (pc0 := 432) (pc' := 540) rfl (hb hby at_432) (by decide) (by decide) ?_
              exact k
            · skip
              by_cases hc128_4 : ((XT.ushr p1 (3 : Int32)) &&& (7 : Int32)) = (5 : Int32)
              · have h146 : ¬ (((XT.ushr p1 (3 : Int32)) &&& (7 : Int32)) = (0 : Int32)) := hc128_0
                have h147 : ¬ (((XT.ushr p1 (3 : Int32)) &&& (7 : Int32)) = (1 : Int32)) := hd1
                have h148 : ¬ (((XT.ushr p1 (3 : Int32)) &&& (7 : Int32)) = (2 : Int32)) := hc128_1
                have h149 : ¬ (((XT.ushr p1 (3 : Int32)) &&& (7 : Int32)) = (3 : Int32)) := hc128_2
                have h150 : ¬ (((XT.ushr p1 (3 : Int32)) &&& (7 : Int32)) = (4 : Int32)) := hc128_3
                have h151 : ((XT.ushr p1 (3 : Int32)) &&& (7 : Int32)) = (5 : Int32) := hc128_4
                obtain ⟨lit152, T152, h152, kn152, b152, kb152, X152, e152, E152, hS152, hk152, hZ, hown, Ex152, Fc152, Fv152, V152, -, -, CH152, -, -, st152⟩ := ldcCH X13 hx hZ hown (hw _ (List.mem_of_getElem? (i := 2) rfl)) (own_wS hw) e13 hS13 hk13 (own_EW hw) (List.mem_of_getElem? (i := 3) rfl) CR13.1 (vs := [.int (49 : Int32), .int (56 : Int32), .int (49 : Int32), .int (57 : Int32)]) (z := (4 : Int32)) ⟨by decide, rfl⟩ (by decide) rfl (g := (mkF m 441 #[.val (.int p1), .val (.int p2), .val (.long q3), .second, .val (.int (p1 &&& (7 : Int32))), .val (.int ((XT.ushr p1 (3 : Int32)) &&& (7 : Int32))), .val (.ref o1), .val (.ref o6), .val (.ref ad13), .val (.int (f0_o13 p1 p2 q3 cz)), .unset, .unset] [])) rfl (hb hby at_441) (n := 16) (by decide) (by decide) (by decide) (by decide)
                have u152_0 := u13_0.ext E152
                have u152_1 := u13_1.ext E152
                have u152_2 := TT13.ext E152
                have u152_3 := (own_Str.exa TT13).ext E152
                have Z152 : n0 ≤ h152.size := Nat.le_trans Z13 E152.1
                have K152 := K13.ext E152
                have OL152 := OL13.ext E152
                have CR152 := CR13.trans CH152
                have T_152 : own_Str Z h152 lit152 ([49, 56, 49, 57] : List Int32) := own_Str.of Ex152 Fv152 Fc152 V152 rfl rfl (by decide) (by decide)
                rw [show (f0_c128 p1 p2 q3 cz) = ([49, 56, 49, 57] : List Int32) from by simp only [f0_c128, if_neg hc128_0, if_neg hc128_1, if_neg hc128_2, if_neg hc128_3, if_pos hc128_4], show (f0_o128 p1 p2 q3 cz) = (0 : Int32) from by simp only [f0_o128, if_neg hc128_0, if_neg hc128_1, if_neg hc128_2, if_neg hc128_3, if_pos hc128_4]]
                refine ⟨T152, T152.vm, _, h152, lit152, _, X152.more (by decide) (by decide), e152, E152, hS152, hk152, hZ, hown, N13, CR152, T_152, fun t k => ?_⟩
                show Steps p.tables e below (T13.setTop (mkF m 357 #[.val (.int p1), .val (.int p2), .val (.long q3), .second, .val (.int (p1 &&& (7 : Int32))), .val (.int ((XT.ushr p1 (3 : Int32)) &&& (7 : Int32))), .val (.ref o1), .val (.ref o6), .val (.ref ad13), .val (.int (f0_o13 p1 p2 q3 cz)), .unset, .unset] [])) _
                refine XS.iload X13.here hx rfl (hb hby at_357) rfl ?_
                show Steps p.tables e below (T13.setTop (mkF m 359 #[.val (.int p1), .val (.int p2), .val (.long q3), .second, .val (.int (p1 &&& (7 : Int32))), .val (.int ((XT.ushr p1 (3 : Int32)) &&& (7 : Int32))), .val (.ref o1), .val (.ref o6), .val (.ref ad13), .val (.int (f0_o13 p1 p2 q3 cz)), .unset, .unset] [(.int ((XT.ushr p1 (3 : Int32)) &&& (7 : Int32)))])) _
                refine XS.ifYes X13.here hx rfl (pc0 := 359) (pc' := 372) rfl (hb hby at_359) rfl ((if0 _ _).trans (feq h146).2) (by decide) (by decide) ?_
                show Steps p.tables e below (T13.setTop (mkF m 372 #[.val (.int p1), .val (.int p2), .val (.long q3), .second, .val (.int (p1 &&& (7 : Int32))), .val (.int ((XT.ushr p1 (3 : Int32)) &&& (7 : Int32))), .val (.ref o1), .val (.ref o6), .val (.ref ad13), .val (.int (f0_o13 p1 p2 q3 cz)), .unset, .unset] [])) _
                refine XS.iload X13.here hx rfl (hb hby at_372) rfl ?_
                show Steps p.tables e below (T13.setTop (mkF m 374 #[.val (.int p1), .val (.int p2), .val (.long q3), .second, .val (.int (p1 &&& (7 : Int32))), .val (.int ((XT.ushr p1 (3 : Int32)) &&& (7 : Int32))), .val (.ref o1), .val (.ref o6), .val (.ref ad13), .val (.int (f0_o13 p1 p2 q3 cz)), .unset, .unset] [(.int ((XT.ushr p1 (3 : Int32)) &&& (7 : Int32)))])) _
                refine XS.iconst X13.here hx rfl (hb hby at_374) ?_
                show Steps p.tables e below (T13.setTop (mkF m 375 #[.val (.int p1), .val (.int p2), .val (.long q3), .second, .val (.int (p1 &&& (7 : Int32))), .val (.int ((XT.ushr p1 (3 : Int32)) &&& (7 : Int32))), .val (.ref o1), .val (.ref o6), .val (.ref ad13), .val (.int (f0_o13 p1 p2 q3 cz)), .unset, .unset] [(.int (1 : Int32)), (.int ((XT.ushr p1 (3 : Int32)) &&& (7 : Int32)))])) _
                refine XS.icmpYes X13.here hx rfl (pc0 := 375) (pc' := 387) rfl (hb hby at_375) rfl (feq h147).2 (by decide) (by decide) ?_
                show Steps p.tables e below (T13.setTop (mkF m 387 #[.val (.int p1), .val (.int p2), .val (.long q3), .second, .val (.int (p1 &&& (7 : Int32))), .val (.int ((XT.ushr p1 (3 : Int32)) &&& (7 : Int32))), .val (.ref o1), .val (.ref o6), .val (.ref ad13), .val (.int (f0_o13 p1 p2 q3 cz)), .unset, .unset] [])) _
                refine XS.iload X13.here hx rfl (hb hby at_387) rfl ?_
                show Steps p.tables e below (T13.setTop (mkF m 389 #[.val (.int p1), .val (.int p2), .val (.long q3), .second, .val (.int (p1 &&& (7 : Int32))), .val (.int ((XT.ushr p1 (3 : Int32)) &&& (7 : Int32))), .val (.ref o1), .val (.ref o6), .val (.ref ad13), .val (.int (f0_o13 p1 p2 q3 cz)), .unset, .unset] [(.int ((XT.ushr p1 (3 : Int32)) &&& (7 : Int32)))])) _
                refine XS.iconst X13.here hx rfl (hb hby at_389) ?_
                show Steps p.tables e below (T13.setTop (mkF m 390 #[.val (.int p1), .val (.int p2), .val (.long q3), .second, .val (.int (p1 &&& (7 : Int32))), .val (.int ((XT.ushr p1 (3 : Int32)) &&& (7 : Int32))), .val (.ref o1), .val (.ref o6), .val (.ref ad13), .val (.int (f0_o13 p1 p2 q3 cz)), .unset, .unset] [(.int (2 : Int32)), (.int ((XT.ushr p1 (3 : Int32)) &&& (7 : Int32)))])) _
                refine XS.icmpYes X13.here hx rfl (pc0 := 390) (pc' := 403) rfl (hb hby at_390) rfl (feq h148).2 (by decide) (by decide) ?_
                show Steps p.tables e below (T13.setTop (mkF m 403 #[.val (.int p1), .val (.int p2), .val (.long q3), .second, .val (.int (p1 &&& (7 : Int32))), .val (.int ((XT.ushr p1 (3 : Int32)) &&& (7 : Int32))), .val (.ref o1), .val (.ref o6), .val (.ref ad13), .val (.int (f0_o13 p1 p2 q3 cz)), .unset, .unset] [])) _
                refine XS.iload X13.here hx rfl (hb hby at_403) rfl ?_
                show Steps p.tables e below (T13.setTop (mkF m 405 #[.val (.int p1), .val (.int p2), .val (.long q3), .second, .val (.int (p1 &&& (7 : Int32))), .val (.int ((XT.ushr p1 (3 : Int32)) &&& (7 : Int32))), .val (.ref o1), .val (.ref o6), .val (.ref ad13), .val (.int (f0_o13 p1 p2 q3 cz)), .unset, .unset] [(.int ((XT.ushr p1 (3 : Int32)) &&& (7 : Int32)))])) _
                refine XS.iconst X13.here hx rfl (hb hby at_405) ?_
                show Steps p.tables e below (T13.setTop (mkF m 406 #[.val (.int p1), .val (.int p2), .val (.long q3), .second, .val (.int (p1 &&& (7 : Int32))), .val (.int ((XT.ushr p1 (3 : Int32)) &&& (7 : Int32))), .val (.ref o1), .val (.ref o6), .val (.ref ad13), .val (.int (f0_o13 p1 p2 q3 cz)), .unset, .unset] [(.int (3 : Int32)), (.int ((XT.ushr p1 (3 : Int32)) &&& (7 : Int32)))])) _
                refine XS.icmpYes X13.here hx rfl (pc0 := 406) (pc' := 419) rfl (hb hby at_406) rfl (feq h149).2 (by decide) (by decide) ?_
                show Steps p.tables e below (T13.setTop (mkF m 419 #[.val (.int p1), .val (.int p2), .val (.long q3), .second, .val (.int (p1 &&& (7 : Int32))), .val (.int ((XT.ushr p1 (3 : Int32)) &&& (7 : Int32))), .val (.ref o1), .val (.ref o6), .val (.ref ad13), .val (.int (f0_o13 p1 p2 q3 cz)), .unset, .unset] [])) _
                refine XS.iload X13.here hx rfl (hb hby at_419) rfl ?_
                show Steps p.tables e below (T13.setTop (mkF m 421 #[.val (.int p1), .val (.int p2), .val (.long q3), .second, .val (.int (p1 &&& (7 : Int32))), .val (.int ((XT.ushr p1 (3 : Int32)) &&& (7 : Int32))), .val (.ref o1), .val (.ref o6), .val (.ref ad13), .val (.int (f0_o13 p1 p2 q3 cz)), .unset, .unset] [(.int ((XT.ushr p1 (3 : Int32)) &&& (7 : Int32)))])) _
                refine XS.iconst X13.here hx rfl (hb hby at_421) ?_
                show Steps p.tables e below (T13.setTop (mkF m 422 #[.val (.int p1), .val (.int p2), .val (.long q3), .second, .val (.int (p1 &&& (7 : Int32))), .val (.int ((XT.ushr p1 (3 : Int32)) &&& (7 : Int32))), .val (.ref o1), .val (.ref o6), .val (.ref ad13), .val (.int (f0_o13 p1 p2 q3 cz)), .unset, .unset] [(.int (4 : Int32)), (.int ((XT.ushr p1 (3 : Int32)) &&& (7 : Int32)))])) _
                refine XS.icmpYes X13.here hx rfl (pc0 := 422) (pc' := 435) rfl (hb hby at_422) rfl (feq h150).2 (by decide) (by decide) ?_
                show Steps p.tables e below (T13.setTop (mkF m 435 #[.val (.int p1), .val (.int p2), .val (.long q3), .second, .val (.int (p1 &&& (7 : Int32))), .val (.int ((XT.ushr p1 (3 : Int32)) &&& (7 : Int32))), .val (.ref o1), .val (.ref o6), .val (.ref ad13), .val (.int (f0_o13 p1 p2 q3 cz)), .unset, .unset] [])) _
                refine XS.iload X13.here hx rfl (hb hby at_435) rfl ?_
                show Steps p.tables e below (T13.setTop (mkF m 437 #[.val (.int p1), .val (.int p2), .val (.long q3), .second, .val (.int (p1 &&& (7 : Int32))), .val (.int ((XT.ushr p1 (3 : Int32)) &&& (7 : Int32))), .val (.ref o1), .val (.ref o6), .val (.ref ad13), .val (.int (f0_o13 p1 p2 q3 cz)), .unset, .unset] [(.int ((XT.ushr p1 (3 : Int32)) &&& (7 : Int32)))])) _
                refine XS.iconst X13.here hx rfl (hb hby at_437) ?_
                show Steps p.tables e below (T13.setTop (mkF m 438 #[.val (.int p1), .val (.int p2), .val (.long q3), .second, .val (.int (p1 &&& (7 : Int32))), .val (.int ((XT.ushr p1 (3 : Int32)) &&& (7 : Int32))), .val (.ref o1), .val (.ref o6), .val (.ref ad13), .val (.int (f0_o13 p1 p2 q3 cz)), .unset, .unset] [(.int (5 : Int32)), (.int ((XT.ushr p1 (3 : Int32)) &&& (7 : Int32)))])) _
                refine XS.icmpNo X13.here hx rfl (hb hby at_438) rfl (teq h151).2 ?_
                show Steps p.tables e below (T13.setTop (mkF m 441 #[.val (.int p1), .val (.int p2), .val (.long q3), .second, .val (.int (p1 &&& (7 : Int32))), .val (.int ((XT.ushr p1 (3 : Int32)) &&& (7 : Int32))), .val (.ref o1), .val (.ref o6), .val (.ref ad13), .val (.int (f0_o13 p1 p2 q3 cz)), .unset, .unset] [])) _
                refine st152 _ ?_
                show Steps p.tables e below (T152.setTop (mkF m 443 #[.val (.int p1), .val (.int p2), .val (.long q3), .second, .val (.int (p1 &&& (7 : Int32))), .val (.int ((XT.ushr p1 (3 : Int32)) &&& (7 : Int32))), .val (.ref o1), .val (.ref o6), .val (.ref ad13), .val (.int (f0_o13 p1 p2 q3 cz)), .unset, .unset] [(.ref lit152)])) _
                refine XS.astore X152.here hx rfl (hb hby at_443) rfl rfl (l' := #[.val (.int p1), .val (.int p2), .val (.long q3), .second, .val (.int (p1 &&& (7 : Int32))), .val (.int ((XT.ushr p1 (3 : Int32)) &&& (7 : Int32))), .val (.ref o1), .val (.ref o6), .val (.ref ad13), .val (.int (f0_o13 p1 p2 q3 cz)), .val (.ref lit152), .unset]) rfl ?_
                show Steps p.tables e below (T152.setTop (mkF m 445 #[.val (.int p1), .val (.int p2), .val (.long q3), .second, .val (.int (p1 &&& (7 : Int32))), .val (.int ((XT.ushr p1 (3 : Int32)) &&& (7 : Int32))), .val (.ref o1), .val (.ref o6), .val (.ref ad13), .val (.int (f0_o13 p1 p2 q3 cz)), .val (.ref lit152), .unset] [])) _
                refine XS.iconst X152.here hx rfl (hb hby at_445) ?_
                show Steps p.tables e below (T152.setTop (mkF m 446 #[.val (.int p1), .val (.int p2), .val (.long q3), .second, .val (.int (p1 &&& (7 : Int32))), .val (.int ((XT.ushr p1 (3 : Int32)) &&& (7 : Int32))), .val (.ref o1), .val (.ref o6), .val (.ref ad13), .val (.int (f0_o13 p1 p2 q3 cz)), .val (.ref lit152), .unset] [(.int (0 : Int32))])) _
                refine XS.istore X152.here hx rfl (hb hby at_446) rfl (l' := #[.val (.int p1), .val (.int p2), .val (.long q3), .second, .val (.int (p1 &&& (7 : Int32))), .val (.int ((XT.ushr p1 (3 : Int32)) &&& (7 : Int32))), .val (.ref o1), .val (.ref o6), .val (.ref ad13), .val (.int (f0_o13 p1 p2 q3 cz)), .val (.ref lit152), .val (.int (0 : Int32))]) rfl ?_
                show Steps p.tables e below (T152.setTop (mkF m 448 #[.val (.int p1), .val (.int p2), .val (.long q3), .second, .val (.int (p1 &&& (7 : Int32))), .val (.int ((XT.ushr p1 (3 : Int32)) &&& (7 : Int32))), .val (.ref o1), .val (.ref o6), .val (.ref ad13), .val (.int (f0_o13 p1 p2 q3 cz)), .val (.ref lit152), .val (.int (0 : Int32))] [])) _
                refine XS.goto X152.here hx rfl (pc0 := 448) (pc' := 540) rfl (hb hby at_448) (by decide) (by decide) ?_
                exact k
              · skip
                by_cases hc128_5 : ((XT.ushr p1 (3 : Int32)) &&& (7 : Int32)) = (6 : Int32)
                · have h153 : ¬ (((XT.ushr p1 (3 : Int32)) &&& (7 : Int32)) = (0 : Int32)) := hc128_0
                  have h154 : ¬ (((XT.ushr p1 (3 : Int32)) &&& (7 : Int32)) = (1 : Int32)) := hd1
                  have h155 : ¬ (((XT.ushr p1 (3 : Int32)) &&& (7 : Int32)) = (2 : Int32)) := hc128_1
                  have h156 : ¬ (((XT.ushr p1 (3 : Int32)) &&& (7 : Int32)) = (3 : Int32)) := hc128_2
                  have h157 : ¬ (((XT.ushr p1 (3 : Int32)) &&& (7 : Int32)) = (4 : Int32)) := hc128_3
                  have h158 : ¬ (((XT.ushr p1 (3 : Int32)) &&& (7 : Int32)) = (5 : Int32)) := hc128_4
                  have h159 : ((XT.ushr p1 (3 : Int32)) &&& (7 : Int32)) = (6 : Int32) := hc128_5
                  obtain ⟨lit160, T160, h160, kn160, b160, kb160, X160, e160, E160, hS160, hk160, hZ, hown, Ex160, Fc160, Fv160, V160, -, -, CH160, -, -, st160⟩ := ldcCH X13 hx hZ hown (hw _ (List.mem_of_getElem? (i := 48) rfl)) (own_wS hw) e13 hS13 hk13 (own_EW hw) (List.mem_of_getElem? (i := 13) rfl) CR13.1 (vs := [.int (51 : Int32), .int (49 : Int32), .int (54 : Int32), .int (57 : Int32), .int (56 : Int32)]) (z := (5 : Int32)) ⟨by decide, rfl⟩ (by decide) rfl (g := (mkF m 458 #[.val (.int p1), .val (.int p2), .val (.long q3), .second, .val (.int (p1 &&& (7 : Int32))), .val (.int ((XT.ushr p1 (3 : Int32)) &&& (7 : Int32))), .val (.ref o1), .val (.ref o6), .val (.ref ad13), .val (.int (f0_o13 p1 p2 q3 cz)), .unset, .unset] [])) rfl (hb hby at_458) (n := 20) (by decide) (by decide) (by decide) (by decide)
                  have u160_0 := u13_0.ext E160
                  have u160_1 := u13_1.ext E160
                  have u160_2 := TT13.ext E160
                  have u160_3 := (own_Str.exa TT13).ext E160
                  have Z160 : n0 ≤ h160.size := Nat.le_trans Z13 E160.1
                  have K160 := K13.ext E160
                  have OL160 := OL13.ext E160
                  have CR160 := CR13.trans CH160
                  have T_160 : own_Str Z h160 lit160 ([51, 49, 54, 57, 56] : List Int32) := own_Str.of Ex160 Fv160 Fc160 V160 rfl rfl (by decide) (by decide)
                  rw [show (f0_c128 p1 p2 q3 cz) = ([51, 49, 54, 57, 56] : List Int32) from by simp only [f0_c128, if_neg hc128_0, if_neg hc128_1, if_neg hc128_2, if_neg hc128_3, if_neg hc128_4, if_pos hc128_5], show (f0_o128 p1 p2 q3 cz) = (0 : Int32) from by simp only [f0_o128, if_neg hc128_0, if_neg hc128_1, if_neg hc128_2, if_neg hc128_3, if_neg hc128_4, if_pos hc128_5]]
                  refine ⟨T160, T160.vm, _, h160, lit160, _, X160.more (by decide) (by decide), e160, E160, hS160, hk160, hZ, hown, N13, CR160, T_160, fun t k => ?_⟩
                  show Steps p.tables e below (T13.setTop (mkF m 357 #[.val (.int p1), .val (.int p2), .val (.long q3), .second, .val (.int (p1 &&& (7 : Int32))), .val (.int ((XT.ushr p1 (3 : Int32)) &&& (7 : Int32))), .val (.ref o1), .val (.ref o6), .val (.ref ad13), .val (.int (f0_o13 p1 p2 q3 cz)), .unset, .unset] [])) _
                  refine XS.iload X13.here hx rfl (hb hby at_357) rfl ?_
                  show Steps p.tables e below (T13.setTop (mkF m 359 #[.val (.int p1), .val (.int p2), .val (.long q3), .second, .val (.int (p1 &&& (7 : Int32))), .val (.int ((XT.ushr p1 (3 : Int32)) &&& (7 : Int32))), .val (.ref o1), .val (.ref o6), .val (.ref ad13), .val (.int (f0_o13 p1 p2 q3 cz)), .unset, .unset] [(.int ((XT.ushr p1 (3 : Int32)) &&& (7 : Int32)))])) _
                  refine XS.ifYes X13.here hx rfl (pc0 := 359) (pc' := 372) rfl (hb hby at_359) rfl ((if0 _ _).trans (feq h153).2) (by decide) (by decide) ?_
                  show Steps p.tables e below (T13.setTop (mkF m 372 #[.val (.int p1), .val (.int p2), .val (.long q3), .second, .val (.int (p1 &&& (7 : Int32))), .val (.int ((XT.ushr p1 (3 : Int32)) &&& (7 : Int32))), .val (.ref o1), .val (.ref o6), .val (.ref ad13), .val (.int (f0_o13 p1 p2 q3 cz)), .unset, .unset] [])) _
                  refine XS.iload X13.here hx rfl (hb hby at_372) rfl ?_
                  show Steps p.tables e below (T13.setTop (mkF m 374 #[.val (.int p1), .val (.int p2), .val (.long q3), .second, .val (.int (p1 &&& (7 : Int32))), .val (.int ((XT.ushr p1 (3 : Int32)) &&& (7 : Int32))), .val (.ref o1), .val (.ref o6), .val (.ref ad13), .val (.int (f0_o13 p1 p2 q3 cz)), .unset, .unset] [(.int ((XT.ushr p1 (3 : Int32)) &&& (7 : Int32)))])) _
                  refine XS.iconst X13.here hx rfl (hb hby at_374) ?_
                  show Steps p.tables e below (T13.setTop (mkF m 375 #[.val (.int p1), .val (.int p2), .val (.long q3), .second, .val (.int (p1 &&& (7 : Int32))), .val (.int ((XT.ushr p1 (3 : Int32)) &&& (7 : Int32))), .val (.ref o1), .val (.ref o6), .val (.ref ad13), .val (.int (f0_o13 p1 p2 q3 cz)), .unset, .unset] [(.int (1 : Int32)), (.int ((XT.ushr p1 (3 : Int32)) &&& (7 : Int32)))])) _
                  refine XS.icmpYes X13.here hx rfl (pc0 := 375) (pc' := 387) rfl (hb hby at_375) rfl (feq h154).2 (by decide) (by decide) ?_
                  show Steps p.tables e below (T13.setTop (mkF m 387 #[.val (.int p1), .val (.int p2), .val (.long q3), .second, .val (.int (p1 &&& (7 : Int32))), .val (.int ((XT.ushr p1 (3 : Int32)) &&& (7 : Int32))), .val (.ref o1), .val (.ref o6), .val (.ref ad13), .val (.int (f0_o13 p1 p2 q3 cz)), .unset, .unset] [])) _
                  refine XS.iload X13.here hx rfl (hb hby at_387) rfl ?_
                  show Steps p.tables e below (T13.setTop (mkF m 389 #[.val (.int p1), .val (.int p2), .val (.long q3), .second, .val (.int (p1 &&& (7 : Int32))), .val (.int ((XT.ushr p1 (3 : Int32)) &&& (7 : Int32))), .val (.ref o1), .val (.ref o6), .val (.ref ad13), .val (.int (f0_o13 p1 p2 q3 cz)), .unset, .unset] [(.int ((XT.ushr p1 (3 : Int32)) &&& (7 : Int32)))])) _
                  refine XS.iconst X13.here hx rfl (hb hby at_389) ?_
                  show Steps p.tables e below (T13.setTop (mkF m 390 #[.val (.int p1), .val (.int p2), .val (.long q3), .second, .val (.int (p1 &&& (7 : Int32))), .val (.int ((XT.ushr p1 (3 : Int32)) &&& (7 : Int32))), .val (.ref o1), .val (.ref o6), .val (.ref ad13), .val (.int (f0_o13 p1 p2 q3 cz)), .unset, .unset] [(.int (2 : Int32)), (.int ((XT.ushr p1 (3 : Int32)) &&& (7 : Int32)))])) _
                  refine XS.icmpYes X13.here hx rfl (pc0 := 390) (pc' := 403) rfl (hb hby at_390) rfl (feq h155).2 (by decide) (by decide) ?_
                  show Steps p.tables e below (T13.setTop (mkF m 403 #[.val (.int p1), .val (.int p2), .val (.long q3), .second, .val (.int (p1 &&& (7 : Int32))), .val (.int ((XT.ushr p1 (3 : Int32)) &&& (7 : Int32))), .val (.ref o1), .val (.ref o6), .val (.ref ad13), .val (.int (f0_o13 p1 p2 q3 cz)), .unset, .unset] [])) _
                  refine XS.iload X13.here hx rfl (hb hby at_403) rfl ?_
                  show Steps p.tables e below (T13.setTop (mkF m 405 #[.val (.int p1), .val (.int p2), .val (.long q3), .second, .val (.int (p1 &&& (7 : Int32))), .val (.int ((XT.ushr p1 (3 : Int32)) &&& (7 : Int32))), .val (.ref o1), .val (.ref o6), .val (.ref ad13), .val (.int (f0_o13 p1 p2 q3 cz)), .unset, .unset] [(.int ((XT.ushr p1 (3 : Int32)) &&& (7 : Int32)))])) _
                  refine XS.iconst X13.here hx rfl (hb hby at_405) ?_
                  show Steps p.tables e below (T13.setTop (mkF m 406 #[.val (.int p1), .val (.int p2), .val (.long q3), .second, .val (.int (p1 &&& (7 : Int32))), .val (.int ((XT.ushr p1 (3 : Int32)) &&& (7 : Int32))), .val (.ref o1), .val (.ref o6), .val (.ref ad13), .val (.int (f0_o13 p1 p2 q3 cz)), .unset, .unset] [(.int (3 : Int32)), (.int ((XT.ushr p1 (3 : Int32)) &&& (7 : Int32)))])) _
                  refine XS.icmpYes X13.here hx rfl (pc0 := 406) (pc' := 419) rfl (hb hby at_406) rfl (feq h156).2 (by decide) (by decide) ?_
                  show Steps p.tables e below (T13.setTop (mkF m 419 #[.val (.int p1), .val (.int p2), .val (.long q3), .second, .val (.int (p1 &&& (7 : Int32))), .val (.int ((XT.ushr p1 (3 : Int32)) &&& (7 : Int32))), .val (.ref o1), .val (.ref o6), .val (.ref ad13), .val (.int (f0_o13 p1 p2 q3 cz)), .unset, .unset] [])) _
                  refine XS.iload X13.here hx rfl (hb hby at_419) rfl ?_
                  show Steps p.tables e below (T13.setTop (mkF m 421 #[.val (.int p1), .val (.int p2), .val (.long q3), .second, .val (.int (p1 &&& (7 : Int32))), .val (.int ((XT.ushr p1 (3 : Int32)) &&& (7 : Int32))), .val (.ref o1), .val (.ref o6), .val (.ref ad13), .val (.int (f0_o13 p1 p2 q3 cz)), .unset, .unset] [(.int ((XT.ushr p1 (3 : Int32)) &&& (7 : Int32)))])) _
                  refine XS.iconst X13.here hx rfl (hb hby at_421) ?_
                  show Steps p.tables e below (T13.setTop (mkF m 422 #[.val (.int p1), .val (.int p2), .val (.long q3), .second, .val (.int (p1 &&& (7 : Int32))), .val (.int ((XT.ushr p1 (3 : Int32)) &&& (7 : Int32))), .val (.ref o1), .val (.ref o6), .val (.ref ad13), .val (.int (f0_o13 p1 p2 q3 cz)), .unset, .unset] [(.int (4 : Int32)), (.int ((XT.ushr p1 (3 : Int32)) &&& (7 : Int32)))])) _
                  refine XS.icmpYes X13.here hx rfl (pc0 := 422) (pc' := 435) rfl (hb hby at_422) rfl (feq h157).2 (by decide) (by decide) ?_
                  show Steps p.tables e below (T13.setTop (mkF m 435 #[.val (.int p1), .val (.int p2), .val (.long q3), .second, .val (.int (p1 &&& (7 : Int32))), .val (.int ((XT.ushr p1 (3 : Int32)) &&& (7 : Int32))), .val (.ref o1), .val (.ref o6), .val (.ref ad13), .val (.int (f0_o13 p1 p2 q3 cz)), .unset, .unset] [])) _
                  refine XS.iload X13.here hx rfl (hb hby at_435) rfl ?_
                  show Steps p.tables e below (T13.setTop (mkF m 437 #[.val (.int p1), .val (.int p2), .val (.long q3), .second, .val (.int (p1 &&& (7 : Int32))), .val (.int ((XT.ushr p1 (3 : Int32)) &&& (7 : Int32))), .val (.ref o1), .val (.ref o6), .val (.ref ad13), .val (.int (f0_o13 p1 p2 q3 cz)), .unset, .unset] [(.int ((XT.ushr p1 (3 : Int32)) &&& (7 : Int32)))])) _
                  refine XS.iconst X13.here hx rfl (hb hby at_437) ?_
                  show Steps p.tables e below (T13.setTop (mkF m 438 #[.val (.int p1), .val (.int p2), .val (.long q3), .second, .val (.int (p1 &&& (7 : Int32))), .val (.int ((XT.ushr p1 (3 : Int32)) &&& (7 : Int32))), .val (.ref o1), .val (.ref o6), .val (.ref ad13), .val (.int (f0_o13 p1 p2 q3 cz)), .unset, .unset] [(.int (5 : Int32)), (.int ((XT.ushr p1 (3 : Int32)) &&& (7 : Int32)))])) _
                  refine XS.icmpYes X13.here hx rfl (pc0 := 438) (pc' := 451) rfl (hb hby at_438) rfl (feq h158).2 (by decide) (by decide) ?_
                  show Steps p.tables e below (T13.setTop (mkF m 451 #[.val (.int p1), .val (.int p2), .val (.long q3), .second, .val (.int (p1 &&& (7 : Int32))), .val (.int ((XT.ushr p1 (3 : Int32)) &&& (7 : Int32))), .val (.ref o1), .val (.ref o6), .val (.ref ad13), .val (.int (f0_o13 p1 p2 q3 cz)), .unset, .unset] [])) _
                  refine XS.iload X13.here hx rfl (hb hby at_451) rfl ?_
                  show Steps p.tables e below (T13.setTop (mkF m 453 #[.val (.int p1), .val (.int p2), .val (.long q3), .second, .val (.int (p1 &&& (7 : Int32))), .val (.int ((XT.ushr p1 (3 : Int32)) &&& (7 : Int32))), .val (.ref o1), .val (.ref o6), .val (.ref ad13), .val (.int (f0_o13 p1 p2 q3 cz)), .unset, .unset] [(.int ((XT.ushr p1 (3 : Int32)) &&& (7 : Int32)))])) _
                  refine XS.bipush X13.here hx rfl (hb hby at_453) ?_
                  show Steps p.tables e below (T13.setTop (mkF m 455 #[.val (.int p1), .val (.int p2), .val (.long q3), .second, .val (.int (p1 &&& (7 : Int32))), .val (.int ((XT.ushr p1 (3 : Int32)) &&& (7 : Int32))), .val (.ref o1), .val (.ref o6), .val (.ref ad13), .val (.int (f0_o13 p1 p2 q3 cz)), .unset, .unset] [(.int (6 : Int32)), (.int ((XT.ushr p1 (3 : Int32)) &&& (7 : Int32)))])) _
                  refine XS.icmpNo X13.here hx rfl (hb hby at_455) rfl (teq h159).2 ?_
                  show Steps p.tables e below (T13.setTop (mkF m 458 #[.val (.int p1), .val (.int p2), .val (.long q3), .second, .val (.int (p1 &&& (7 : Int32))), .val (.int ((XT.ushr p1 (3 : Int32)) &&& (7 : Int32))), .val (.ref o1), .val (.ref o6), .val (.ref ad13), .val (.int (f0_o13 p1 p2 q3 cz)), .unset, .unset] [])) _
                  refine st160 _ ?_
                  show Steps p.tables e below (T160.setTop (mkF m 460 #[.val (.int p1), .val (.int p2), .val (.long q3), .second, .val (.int (p1 &&& (7 : Int32))), .val (.int ((XT.ushr p1 (3 : Int32)) &&& (7 : Int32))), .val (.ref o1), .val (.ref o6), .val (.ref ad13), .val (.int (f0_o13 p1 p2 q3 cz)), .unset, .unset] [(.ref lit160)])) _
                  refine XS.astore X160.here hx rfl (hb hby at_460) rfl rfl (l' := #[.val (.int p1), .val (.int p2), .val (.long q3), .second, .val (.int (p1 &&& (7 : Int32))), .val (.int ((XT.ushr p1 (3 : Int32)) &&& (7 : Int32))), .val (.ref o1), .val (.ref o6), .val (.ref ad13), .val (.int (f0_o13 p1 p2 q3 cz)), .val (.ref lit160), .unset]) rfl ?_
                  show Steps p.tables e below (T160.setTop (mkF m 462 #[.val (.int p1), .val (.int p2), .val (.long q3), .second, .val (.int (p1 &&& (7 : Int32))), .val (.int ((XT.ushr p1 (3 : Int32)) &&& (7 : Int32))), .val (.ref o1), .val (.ref o6), .val (.ref ad13), .val (.int (f0_o13 p1 p2 q3 cz)), .val (.ref lit160), .unset] [])) _
                  refine XS.iconst X160.here hx rfl (hb hby at_462) ?_
                  show Steps p.tables e below (T160.setTop (mkF m 463 #[.val (.int p1), .val (.int p2), .val (.long q3), .second, .val (.int (p1 &&& (7 : Int32))), .val (.int ((XT.ushr p1 (3 : Int32)) &&& (7 : Int32))), .val (.ref o1), .val (.ref o6), .val (.ref ad13), .val (.int (f0_o13 p1 p2 q3 cz)), .val (.ref lit160), .unset] [(.int (0 : Int32))])) _
                  refine XS.istore X160.here hx rfl (hb hby at_463) rfl (l' := #[.val (.int p1), .val (.int p2), .val (.long q3), .second, .val (.int (p1 &&& (7 : Int32))), .val (.int ((XT.ushr p1 (3 : Int32)) &&& (7 : Int32))), .val (.ref o1), .val (.ref o6), .val (.ref ad13), .val (.int (f0_o13 p1 p2 q3 cz)), .val (.ref lit160), .val (.int (0 : Int32))]) rfl ?_
                  show Steps p.tables e below (T160.setTop (mkF m 465 #[.val (.int p1), .val (.int p2), .val (.long q3), .second, .val (.int (p1 &&& (7 : Int32))), .val (.int ((XT.ushr p1 (3 : Int32)) &&& (7 : Int32))), .val (.ref o1), .val (.ref o6), .val (.ref ad13), .val (.int (f0_o13 p1 p2 q3 cz)), .val (.ref lit160), .val (.int (0 : Int32))] [])) _
                  refine XS.goto X160.here hx rfl (pc0 := 465) (pc' := 540) rfl (hb hby at_465) (by decide) (by decide) ?_
                  exact k
                · skip
                  have h161 : ¬ (((XT.ushr p1 (3 : Int32)) &&& (7 : Int32)) = (0 : Int32)) := hc128_0
                  have h162 : ¬ (((XT.ushr p1 (3 : Int32)) &&& (7 : Int32)) = (1 : Int32)) := hd1
                  have h163 : ¬ (((XT.ushr p1 (3 : Int32)) &&& (7 : Int32)) = (2 : Int32)) := hc128_1
                  have h164 : ¬ (((XT.ushr p1 (3 : Int32)) &&& (7 : Int32)) = (3 : Int32)) := hc128_2
                  have h165 : ¬ (((XT.ushr p1 (3 : Int32)) &&& (7 : Int32)) = (4 : Int32)) := hc128_3
                  have h166 : ¬ (((XT.ushr p1 (3 : Int32)) &&& (7 : Int32)) = (5 : Int32)) := hc128_4
                  have h167 : ¬ (((XT.ushr p1 (3 : Int32)) &&& (7 : Int32)) = (6 : Int32)) := hc128_5
                  obtain ⟨T168, h168, X168, e168, E168, A168, D168, -, st168⟩ := newO X13 hx hZ hown (hw _ (List.mem_of_getElem? (i := 23) rfl)) (hw _ (List.mem_of_getElem? (i := 4) rfl)) (hw _ (List.mem_of_getElem? (i := 3) rfl)) e13 (g := (mkF m 468 #[.val (.int p1), .val (.int p2), .val (.long q3), .second, .val (.int (p1 &&& (7 : Int32))), .val (.int ((XT.ushr p1 (3 : Int32)) &&& (7 : Int32))), .val (.ref o1), .val (.ref o6), .val (.ref ad13), .val (.int (f0_o13 p1 p2 q3 cz)), .unset, .unset] [])) rfl (hb hby at_468) (by decide) (by decide)
                  obtain ⟨o168, g168⟩ : ∃ z, z = h13.size := ⟨_, rfl⟩
                  rw [← g168] at A168 D168 st168
                  have ne168_1 : o1 ≠ o168 := Nat.ne_of_lt (Nat.lt_of_lt_of_le u13_0.lt (Nat.le_of_eq g168.symm))
                  have ne168_2 : o6 ≠ o168 := Nat.ne_of_lt (Nat.lt_of_lt_of_le u13_1.lt (Nat.le_of_eq g168.symm))
                  have ne168_3 : ad13 ≠ o168 := Nat.ne_of_lt (Nat.lt_of_lt_of_le (own_Str.exa TT13).lt (Nat.le_of_eq g168.symm))
                  have u168_0 := u13_0.ext E168
                  have u168_1 := u13_1.ext E168
                  have u168_2 := TT13.ext E168
                  have u168_3 := (own_Str.exa TT13).ext E168
                  have ge168 : n0 ≤ o168 := Nat.le_trans Z13 (Nat.le_of_eq g168.symm)
                  have Z168 : n0 ≤ h168.size := Nat.le_trans Z13 E168.1
                  have sz168 : h0.size ≤ o168 := Nat.le_trans K13.1 (Nat.le_of_eq g168.symm)
                  have K168 := K13.ext E168
                  have OL168 := OL13.ext E168
                  have D168_6 : Fld Z h168 o168 "java/lang/String" "value" "[B" .null := D168 (Or.inr (hw _ (List.mem_of_getElem? (i := 6) rfl))) (ty := (.array .byte)) (by decide)
                  have D168_7 : Fld Z h168 o168 "java/lang/String" "coder" "B" (.int (0 : Int32)) := D168 (Or.inr (hw _ (List.mem_of_getElem? (i := 7) rfl))) (ty := .byte) (by decide)
                  have hp169 : ∀ c ∈ ([(f0_4 p1 p2 q3 cz).toUInt32.toUInt16.toUInt32.toInt32, (f0_5 p1 p2 q3 cz).toUInt32.toUInt16.toUInt32.toInt32, (f0_6 p1 p2 q3 cz).toUInt32.toUInt16.toUInt32.toInt32, (f0_7 p1 p2 q3 cz).toUInt32.toUInt16.toUInt32.toInt32, (f0_8 p1 p2 q3 cz).toUInt32.toUInt16.toUInt32.toInt32, (f0_9 p1 p2 q3 cz).toUInt32.toUInt16.toUInt32.toInt32] : List Int32), ¬ c < 0 ∧ ¬ (255 : Int32) < c := by
                    intro c hc
                    simp only [List.mem_cons, List.not_mem_nil, or_false] at hc
                    rcases hc with rfl | rfl | rfl | rfl | rfl | rfl
                    · exact (by simp only [f0_4]; exact own_bJ _)
                    · exact (by simp only [f0_5]; exact own_bJ _)
                    · exact (by simp only [f0_6]; exact own_bJ _)
                    · exact (by simp only [f0_7]; exact own_bJ _)
                    · exact (by simp only [f0_8]; exact own_bJ _)
                    · exact (by simp only [f0_9]; exact own_bJ _)
                  obtain ⟨_, _, ⟨T169, L169, k169, n169⟩, -, X169, ⟨Lc169, hQ169, l169, y169, z169⟩, st169⟩ := X168.specialBack hx (y := (⟨"java/lang/String", "<init>", "([C)V"⟩ : MethodName)) rfl hown (mvT hZ (hw _ (List.mem_of_getElem? (i := 24) rfl))) (mvT hZ (hw _ (List.mem_of_getElem? (i := 25) rfl))) (mvT hZ (hw _ (List.mem_of_getElem? (i := 26) rfl))) (by decide) (StrChars.Road.backV (W := 1) hZ (own_wV hw) (kI := 4) (hw _ (List.mem_of_getElem? (i := 4) rfl)) (cs := ([(f0_4 p1 p2 q3 cz).toUInt32.toUInt16.toUInt32.toInt32, (f0_5 p1 p2 q3 cz).toUInt32.toUInt16.toUInt32.toInt32, (f0_6 p1 p2 q3 cz).toUInt32.toUInt16.toUInt32.toInt32, (f0_7 p1 p2 q3 cz).toUInt32.toUInt16.toUInt32.toInt32, (f0_8 p1 p2 q3 cz).toUInt32.toUInt16.toUInt32.toInt32, (f0_9 p1 p2 q3 cz).toUInt32.toUInt16.toUInt32.toInt32] : List Int32)) (bs := (([(f0_4 p1 p2 q3 cz).toUInt32.toUInt16.toUInt32.toInt32, (f0_5 p1 p2 q3 cz).toUInt32.toUInt16.toUInt32.toInt32, (f0_6 p1 p2 q3 cz).toUInt32.toUInt16.toUInt32.toInt32, (f0_7 p1 p2 q3 cz).toUInt32.toUInt16.toUInt32.toInt32, (f0_8 p1 p2 q3 cz).toUInt32.toUInt16.toUInt32.toInt32, (f0_9 p1 p2 q3 cz).toUInt32.toUInt16.toUInt32.toInt32] : List Int32)).map (fun c => c.toInt8.toInt32)) (n := 6) ge168 Z168 A168 D168_6 D168_7 u168_1 (Sta.ext OL168.2 hCS) hcz rfl rfl (by decide) (by decide) hp169 rfl (by decide) (by decide)) (g := (mkF m 474 #[.val (.int p1), .val (.int p2), .val (.long q3), .second, .val (.int (p1 &&& (7 : Int32))), .val (.int ((XT.ushr p1 (3 : Int32)) &&& (7 : Int32))), .val (.ref o1), .val (.ref o6), .val (.ref ad13), .val (.int (f0_o13 p1 p2 q3 cz)), .unset, .unset] [(.ref o6), (.ref o168), (.ref o168)])) rfl (by rw [hml]; rfl) (Steps.refl _) (a := o168) (argsL := [(.ref o6)]) (rest := [(.ref o168)]) (lenOf pd_1 rfl) rfl (by show 2 * 0 + _ ≤ _; exact Nat.le_of_eq rfl) (hb hby at_474) (fun _ _ => ⟨rfl, e168, (by decide : 5 + 1 ≤ _), (by decide : 38 + 6 ≤ _)⟩)
                  dsimp only [Pt.U, Pt.locs, Pt.cells, Pt.slots] at X169 l169 y169 z169 st169 hQ169
                  subst l169 y169 z169
                  obtain ⟨rfl, N169q, Kc169, Ex169, Fc169, tb169, kb169, -, -, -, Fv169, Vb169⟩ := hQ169
                  have N169 := Fr.app N13 N169q
                  have u169_0 := u168_0.keep Kc169 (by simp only [List.mem_cons, List.not_mem_nil, or_false, not_or]; exact ne168_1)
                  have u169_1 := u168_1.keep Kc169 (by simp only [List.mem_cons, List.not_mem_nil, or_false, not_or]; exact ne168_2)
                  have u169_3 := u168_3.keep Kc169
                  have u169_4 := A168.keep Kc169
                  have OL169 := OL168.keep Kc169 (fun x hx => by cases List.mem_singleton.mp hx; exact ge168)
                  have K169 := K168.trans Kc169 (fun x hx => by cases List.mem_singleton.mp hx; exact Or.inr sz168)
                  have Z169 : n0 ≤ T169.heap.size := Nat.le_trans Z168 Kc169.1
                  have EE169 : Ext h13 T169.heap := own_ext2 E168 Kc169 (Nat.le_of_eq g168.symm)
                  have tt169_0 := TT13.ext EE169
                  have T_169 : own_Str Z T169.heap o168 ([(f0_4 p1 p2 q3 cz).toUInt32.toUInt16.toUInt32.toInt32, (f0_5 p1 p2 q3 cz).toUInt32.toUInt16.toUInt32.toInt32, (f0_6 p1 p2 q3 cz).toUInt32.toUInt16.toUInt32.toInt32, (f0_7 p1 p2 q3 cz).toUInt32.toUInt16.toUInt32.toInt32, (f0_8 p1 p2 q3 cz).toUInt32.toUInt16.toUInt32.toInt32, (f0_9 p1 p2 q3 cz).toUInt32.toUInt16.toUInt32.toInt32] : List Int32) := own_Str.of Ex169 Fv169 Fc169 Vb169 rfl rfl hp169 (by show 6 ≤ 4000; decide)
                  obtain ⟨cl170, Ar170, -, S170, M170, H170, -⟩ := id u169_1
                  have hin170 := inb_of (j := (0 : Int32)) S170 (by decide)
                  have hat170 := H170.at hin170 (v := (.int (f0_4 p1 p2 q3 cz).toUInt32.toUInt16.toUInt32.toInt32)) (rfl)
                  have st187 : ∀ t, Steps p.tables e below (T169.setTop (mkF m 538 #[.val (.int p1), .val (.int p2), .val (.long q3), .second, .val (.int (p1 &&& (7 : Int32))), .val (.int ((XT.ushr p1 (3 : Int32)) &&& (7 : Int32))), .val (.ref o1), .val (.ref o6), .val (.ref ad13), .val (.int (f0_o13 p1 p2 q3 cz)), .val (.ref o168), .unset] [(.int (f0_24 p1 p2 q3 cz))])) t → Steps p.tables e below (T169.setTop (mkF m 485 #[.val (.int p1), .val (.int p2), .val (.long q3), .second, .val (.int (p1 &&& (7 : Int32))), .val (.int ((XT.ushr p1 (3 : Int32)) &&& (7 : Int32))), .val (.ref o1), .val (.ref o6), .val (.ref ad13), .val (.int (f0_o13 p1 p2 q3 cz)), .val (.ref o168), .unset] [(.int (51 : Int32)), (.int (f0_4 p1 p2 q3 cz).toUInt32.toUInt16.toUInt32.toInt32)])) t := by
                    intro t k
                    by_cases h171 : (f0_4 p1 p2 q3 cz).toUInt32.toUInt16.toUInt32.toInt32 = (51 : Int32)
                    · obtain ⟨cl172, Ar172, -, S172, M172, H172, -⟩ := id u169_1
                      have hin172 := inb_of (j := (1 : Int32)) S172 (by decide)
                      have hat172 := H172.at hin172 (v := (.int (f0_5 p1 p2 q3 cz).toUInt32.toUInt16.toUInt32.toInt32)) (rfl)
                      have st186 : ∀ t, Steps p.tables e below (T169.setTop (mkF m 538 #[.val (.int p1), .val (.int p2), .val (.long q3), .second, .val (.int (p1 &&& (7 : Int32))), .val (.int ((XT.ushr p1 (3 : Int32)) &&& (7 : Int32))), .val (.ref o1), .val (.ref o6), .val (.ref ad13), .val (.int (f0_o13 p1 p2 q3 cz)), .val (.ref o168), .unset] [(.int (f0_23 p1 p2 q3 cz))])) t → Steps p.tables e below (T169.setTop (mkF m 494 #[.val (.int p1), .val (.int p2), .val (.long q3), .second, .val (.int (p1 &&& (7 : Int32))), .val (.int ((XT.ushr p1 (3 : Int32)) &&& (7 : Int32))), .val (.ref o1), .val (.ref o6), .val (.ref ad13), .val (.int (f0_o13 p1 p2 q3 cz)), .val (.ref o168), .unset] [(.int (49 : Int32)), (.int (f0_5 p1 p2 q3 cz).toUInt32.toUInt16.toUInt32.toInt32)])) t := by
                        intro t k
                        by_cases h173 : (f0_5 p1 p2 q3 cz).toUInt32.toUInt16.toUInt32.toInt32 = (49 : Int32)
                        · obtain ⟨cl174, Ar174, -, S174, M174, H174, -⟩ := id u169_1
                          have hin174 := inb_of (j := (2 : Int32)) S174 (by decide)
                          have hat174 := H174.at hin174 (v := (.int (f0_6 p1 p2 q3 cz).toUInt32.toUInt16.toUInt32.toInt32)) (rfl)
                          have st185 : ∀ t, Steps p.tables e below (T169.setTop (mkF m 538 #[.val (.int p1), .val (.int p2), .val (.long q3), .second, .val (.int (p1 &&& (7 : Int32))), .val (.int ((XT.ushr p1 (3 : Int32)) &&& (7 : Int32))), .val (.ref o1), .val (.ref o6), .val (.ref ad13), .val (.int (f0_o13 p1 p2 q3 cz)), .val (.ref o168), .unset] [(.int (f0_22 p1 p2 q3 cz))])) t → Steps p.tables e below (T169.setTop (mkF m 503 #[.val (.int p1), .val (.int p2), .val (.long q3), .second, .val (.int (p1 &&& (7 : Int32))), .val (.int ((XT.ushr p1 (3 : Int32)) &&& (7 : Int32))), .val (.ref o1), .val (.ref o6), .val (.ref ad13), .val (.int (f0_o13 p1 p2 q3 cz)), .val (.ref o168), .unset] [(.int (54 : Int32)), (.int (f0_6 p1 p2 q3 cz).toUInt32.toUInt16.toUInt32.toInt32)])) t := by
                            intro t k
                            by_cases h175 : (f0_6 p1 p2 q3 cz).toUInt32.toUInt16.toUInt32.toInt32 = (54 : Int32)
                            · obtain ⟨cl176, Ar176, -, S176, M176, H176, -⟩ := id u169_1
                              have hin176 := inb_of (j := (3 : Int32)) S176 (by decide)
                              have hat176 := H176.at hin176 (v := (.int (f0_7 p1 p2 q3 cz).toUInt32.toUInt16.toUInt32.toInt32)) (rfl)
                              have st184 : ∀ t, Steps p.tables e below (T169.setTop (mkF m 538 #[.val (.int p1), .val (.int p2), .val (.long q3), .second, .val (.int (p1 &&& (7 : Int32))), .val (.int ((XT.ushr p1 (3 : Int32)) &&& (7 : Int32))), .val (.ref o1), .val (.ref o6), .val (.ref ad13), .val (.int (f0_o13 p1 p2 q3 cz)), .val (.ref o168), .unset] [(.int (f0_21 p1 p2 q3 cz))])) t → Steps p.tables e below (T169.setTop (mkF m 512 #[.val (.int p1), .val (.int p2), .val (.long q3), .second, .val (.int (p1 &&& (7 : Int32))), .val (.int ((XT.ushr p1 (3 : Int32)) &&& (7 : Int32))), .val (.ref o1), .val (.ref o6), .val (.ref ad13), .val (.int (f0_o13 p1 p2 q3 cz)), .val (.ref o168), .unset] [(.int (57 : Int32)), (.int (f0_7 p1 p2 q3 cz).toUInt32.toUInt16.toUInt32.toInt32)])) t := by
                                intro t k
                                by_cases h177 : (f0_7 p1 p2 q3 cz).toUInt32.toUInt16.toUInt32.toInt32 = (57 : Int32)
                                · obtain ⟨cl178, Ar178, -, S178, M178, H178, -⟩ := id u169_1
                                  have hin178 := inb_of (j := (4 : Int32)) S178 (by decide)
                                  have hat178 := H178.at hin178 (v := (.int (f0_8 p1 p2 q3 cz).toUInt32.toUInt16.toUInt32.toInt32)) (rfl)
                                  have st183 : ∀ t, Steps p.tables e below (T169.setTop (mkF m 538 #[.val (.int p1), .val (.int p2), .val (.long q3), .second, .val (.int (p1 &&& (7 : Int32))), .val (.int ((XT.ushr p1 (3 : Int32)) &&& (7 : Int32))), .val (.ref o1), .val (.ref o6), .val (.ref ad13), .val (.int (f0_o13 p1 p2 q3 cz)), .val (.ref o168), .unset] [(.int (f0_20 p1 p2 q3 cz))])) t → Steps p.tables e below (T169.setTop (mkF m 521 #[.val (.int p1), .val (.int p2), .val (.long q3), .second, .val (.int (p1 &&& (7 : Int32))), .val (.int ((XT.ushr p1 (3 : Int32)) &&& (7 : Int32))), .val (.ref o1), .val (.ref o6), .val (.ref ad13), .val (.int (f0_o13 p1 p2 q3 cz)), .val (.ref o168), .unset] [(.int (56 : Int32)), (.int (f0_8 p1 p2 q3 cz).toUInt32.toUInt16.toUInt32.toInt32)])) t := by
                                    intro t k
                                    by_cases h179 : (f0_8 p1 p2 q3 cz).toUInt32.toUInt16.toUInt32.toInt32 = (56 : Int32)
                                    · obtain ⟨cl180, Ar180, -, S180, M180, H180, -⟩ := id u169_1
                                      have hin180 := inb_of (j := (5 : Int32)) S180 (by decide)
                                      have hat180 := H180.at hin180 (v := (.int (f0_9 p1 p2 q3 cz).toUInt32.toUInt16.toUInt32.toInt32)) (rfl)
                                      have st182 : ∀ t, Steps p.tables e below (T169.setTop (mkF m 538 #[.val (.int p1), .val (.int p2), .val (.long q3), .second, .val (.int (p1 &&& (7 : Int32))), .val (.int ((XT.ushr p1 (3 : Int32)) &&& (7 : Int32))), .val (.ref o1), .val (.ref o6), .val (.ref ad13), .val (.int (f0_o13 p1 p2 q3 cz)), .val (.ref o168), .unset] [(.int (f0_19 p1 p2 q3 cz))])) t → Steps p.tables e below (T169.setTop (mkF m 530 #[.val (.int p1), .val (.int p2), .val (.long q3), .second, .val (.int (p1 &&& (7 : Int32))), .val (.int ((XT.ushr p1 (3 : Int32)) &&& (7 : Int32))), .val (.ref o1), .val (.ref o6), .val (.ref ad13), .val (.int (f0_o13 p1 p2 q3 cz)), .val (.ref o168), .unset] [(.int (55 : Int32)), (.int (f0_9 p1 p2 q3 cz).toUInt32.toUInt16.toUInt32.toInt32)])) t := by
                                        intro t k
                                        by_cases h181 : (f0_9 p1 p2 q3 cz).toUInt32.toUInt16.toUInt32.toInt32 = (55 : Int32)
                                        · rw [show (f0_19 p1 p2 q3 cz) = (1 : Int32) from if_pos h181] at k
                                          show Steps p.tables e below (T169.setTop (mkF m 530 #[.val (.int p1), .val (.int p2), .val (.long q3), .second, .val (.int (p1 &&& (7 : Int32))), .val (.int ((XT.ushr p1 (3 : Int32)) &&& (7 : Int32))), .val (.ref o1), .val (.ref o6), .val (.ref ad13), .val (.int (f0_o13 p1 p2 q3 cz)), .val (.ref o168), .unset] [(.int (55 : Int32)), (.int (f0_9 p1 p2 q3 cz).toUInt32.toUInt16.toUInt32.toInt32)])) _
                                          refine XS.icmpNo X169.here hx rfl (hb hby at_530) rfl (teq h181).2 ?_
                                          show Steps p.tables e below (T169.setTop (mkF m 533 #[.val (.int p1), .val (.int p2), .val (.long q3), .second, .val (.int (p1 &&& (7 : Int32))), .val (.int ((XT.ushr p1 (3 : Int32)) &&& (7 : Int32))), .val (.ref o1), .val (.ref o6), .val (.ref ad13), .val (.int (f0_o13 p1 p2 q3 cz)), .val (.ref o168), .unset] [])) _
                                          refine XS.iconst X169.here hx rfl (hb hby at_533) ?_
                                          show Steps p.tables e below (T169.setTop (mkF m 534 #[.val (.int p1), .val (.int p2), .val (.long q3), .second, .val (.int (p1 &&& (7 : Int32))), .val (.int ((XT.ushr p1 (3 : Int32)) &&& (7 : Int32))), .val (.ref o1), .val (.ref o6), .val (.ref ad13), .val (.int (f0_o13 p1 p2 q3 cz)), .val (.ref o168), .unset] [(.int (1 : Int32))])) _
                                          refine XS.goto X169.here hx rfl (pc0 := 534) (pc' := 538) rfl (hb hby at_534) (by decide) (by decide) ?_
                                          exact k
                                        · rw [show (f0_19 p1 p2 q3 cz) = (0 : Int32) from if_neg h181] at k
                                          show Steps p.tables e below (T169.setTop (mkF m 530 #[.val (.int p1), .val (.int p2), .val (.long q3), .second, .val (.int (p1 &&& (7 : Int32))), .val (.int ((XT.ushr p1 (3 : Int32)) &&& (7 : Int32))), .val (.ref o1), .val (.ref o6), .val (.ref ad13), .val (.int (f0_o13 p1 p2 q3 cz)), .val (.ref o168), .unset] [(.int (55 : Int32)), (.int (f0_9 p1 p2 q3 cz).toUInt32.toUInt16.toUInt32.toInt32)])) _
                                          refine XS.icmpYes X169.here hx rfl (pc0 := 530) (pc' := 537) rfl (hb hby at_530) rfl (feq h181).2 (by decide) (by decide) ?_
                                          show Steps p.tables e below (T169.setTop (mkF m 537 #[.val (.int p1), .val (.int p2), .val (.long q3), .second, .val (.int (p1 &&& (7 : Int32))), .val (.int ((XT.ushr p1 (3 : Int32)) &&& (7 : Int32))), .val (.ref o1), .val (.ref o6), .val (.ref ad13), .val (.int (f0_o13 p1 p2 q3 cz)), .val (.ref o168), .unset] [])) _
                                          refine XS.iconst X169.here hx rfl (hb hby at_537) ?_
                                          exact k
                                      rw [show (f0_20 p1 p2 q3 cz) = (f0_19 p1 p2 q3 cz) from if_pos h179] at k
                                      show Steps p.tables e below (T169.setTop (mkF m 521 #[.val (.int p1), .val (.int p2), .val (.long q3), .second, .val (.int (p1 &&& (7 : Int32))), .val (.int ((XT.ushr p1 (3 : Int32)) &&& (7 : Int32))), .val (.ref o1), .val (.ref o6), .val (.ref ad13), .val (.int (f0_o13 p1 p2 q3 cz)), .val (.ref o168), .unset] [(.int (56 : Int32)), (.int (f0_8 p1 p2 q3 cz).toUInt32.toUInt16.toUInt32.toInt32)])) _
                                      refine XS.icmpNo X169.here hx rfl (hb hby at_521) rfl (teq h179).2 ?_
                                      show Steps p.tables e below (T169.setTop (mkF m 524 #[.val (.int p1), .val (.int p2), .val (.long q3), .second, .val (.int (p1 &&& (7 : Int32))), .val (.int ((XT.ushr p1 (3 : Int32)) &&& (7 : Int32))), .val (.ref o1), .val (.ref o6), .val (.ref ad13), .val (.int (f0_o13 p1 p2 q3 cz)), .val (.ref o168), .unset] [])) _
                                      refine XS.aload X169.here hx rfl (hb hby at_524) rfl rfl ?_
                                      show Steps p.tables e below (T169.setTop (mkF m 526 #[.val (.int p1), .val (.int p2), .val (.long q3), .second, .val (.int (p1 &&& (7 : Int32))), .val (.int ((XT.ushr p1 (3 : Int32)) &&& (7 : Int32))), .val (.ref o1), .val (.ref o6), .val (.ref ad13), .val (.int (f0_o13 p1 p2 q3 cz)), .val (.ref o168), .unset] [(.ref o6)])) _
                                      refine XS.iconst X169.here hx rfl (hb hby at_526) ?_
                                      show Steps p.tables e below (T169.setTop (mkF m 527 #[.val (.int p1), .val (.int p2), .val (.long q3), .second, .val (.int (p1 &&& (7 : Int32))), .val (.int ((XT.ushr p1 (3 : Int32)) &&& (7 : Int32))), .val (.ref o1), .val (.ref o6), .val (.ref ad13), .val (.int (f0_o13 p1 p2 q3 cz)), .val (.ref o168), .unset] [(.int (5 : Int32)), (.ref o6)])) _
                                      refine X169.caload hx (j := (5 : Int32)) (v := (.int (f0_9 p1 p2 q3 cz).toUInt32.toUInt16.toUInt32.toInt32)) Ar180.1 (State.isArrayOf_alike hZ.alike Ar180.2.1) Ar180.2.2 hin180 hat180 (g := (mkF m 527 #[.val (.int p1), .val (.int p2), .val (.long q3), .second, .val (.int (p1 &&& (7 : Int32))), .val (.int ((XT.ushr p1 (3 : Int32)) &&& (7 : Int32))), .val (.ref o1), .val (.ref o6), .val (.ref ad13), .val (.int (f0_o13 p1 p2 q3 cz)), .val (.ref o168), .unset] [(.int (5 : Int32)), (.ref o6)])) rfl rfl (hb hby at_527) _ ?_
                                      show Steps p.tables e below (T169.setTop (mkF m 528 #[.val (.int p1), .val (.int p2), .val (.long q3), .second, .val (.int (p1 &&& (7 : Int32))), .val (.int ((XT.ushr p1 (3 : Int32)) &&& (7 : Int32))), .val (.ref o1), .val (.ref o6), .val (.ref ad13), .val (.int (f0_o13 p1 p2 q3 cz)), .val (.ref o168), .unset] [(.int (f0_9 p1 p2 q3 cz).toUInt32.toUInt16.toUInt32.toInt32)])) _
                                      refine XS.bipush X169.here hx rfl (hb hby at_528) ?_
                                      show Steps p.tables e below (T169.setTop (mkF m 530 #[.val (.int p1), .val (.int p2), .val (.long q3), .second, .val (.int (p1 &&& (7 : Int32))), .val (.int ((XT.ushr p1 (3 : Int32)) &&& (7 : Int32))), .val (.ref o1), .val (.ref o6), .val (.ref ad13), .val (.int (f0_o13 p1 p2 q3 cz)), .val (.ref o168), .unset] [(.int (55 : Int32)), (.int (f0_9 p1 p2 q3 cz).toUInt32.toUInt16.toUInt32.toInt32)])) _
                                      refine st182 _ ?_
                                      exact k
                                    · rw [show (f0_20 p1 p2 q3 cz) = (0 : Int32) from if_neg h179] at k
                                      show Steps p.tables e below (T169.setTop (mkF m 521 #[.val (.int p1), .val (.int p2), .val (.long q3), .second, .val (.int (p1 &&& (7 : Int32))), .val (.int ((XT.ushr p1 (3 : Int32)) &&& (7 : Int32))), .val (.ref o1), .val (.ref o6), .val (.ref ad13), .val (.int (f0_o13 p1 p2 q3 cz)), .val (.ref o168), .unset] [(.int (56 : Int32)), (.int (f0_8 p1 p2 q3 cz).toUInt32.toUInt16.toUInt32.toInt32)])) _
                                      refine XS.icmpYes X169.here hx rfl (pc0 := 521) (pc' := 537) rfl (hb hby at_521) rfl (feq h179).2 (by decide) (by decide) ?_
                                      show Steps p.tables e below (T169.setTop (mkF m 537 #[.val (.int p1), .val (.int p2), .val (.long q3), .second, .val (.int (p1 &&& (7 : Int32))), .val (.int ((XT.ushr p1 (3 : Int32)) &&& (7 : Int32))), .val (.ref o1), .val (.ref o6), .val (.ref ad13), .val (.int (f0_o13 p1 p2 q3 cz)), .val (.ref o168), .unset] [])) _
                                      refine XS.iconst X169.here hx rfl (hb hby at_537) ?_
                                      exact k
                                  rw [show (f0_21 p1 p2 q3 cz) = (f0_20 p1 p2 q3 cz) from if_pos h177] at k
                                  show Steps p.tables e below (T169.setTop (mkF m 512 #[.val (.int p1), .val (.int p2), .val (.long q3), .second, .val (.int (p1 &&& (7 : Int32))), .val (.int ((XT.ushr p1 (3 : Int32)) &&& (7 : Int32))), .val (.ref o1), .val (.ref o6), .val (.ref ad13), .val (.int (f0_o13 p1 p2 q3 cz)), .val (.ref o168), .unset] [(.int (57 : Int32)), (.int (f0_7 p1 p2 q3 cz).toUInt32.toUInt16.toUInt32.toInt32)])) _
                                  refine XS.icmpNo X169.here hx rfl (hb hby at_512) rfl (teq h177).2 ?_
                                  show Steps p.tables e below (T169.setTop (mkF m 515 #[.val (.int p1), .val (.int p2), .val (.long q3), .second, .val (.int (p1 &&& (7 : Int32))), .val (.int ((XT.ushr p1 (3 : Int32)) &&& (7 : Int32))), .val (.ref o1), .val (.ref o6), .val (.ref ad13), .val (.int (f0_o13 p1 p2 q3 cz)), .val (.ref o168), .unset] [])) _
                                  refine XS.aload X169.here hx rfl (hb hby at_515) rfl rfl ?_
                                  show Steps p.tables e below (T169.setTop (mkF m 517 #[.val (.int p1), .val (.int p2), .val (.long q3), .second, .val (.int (p1 &&& (7 : Int32))), .val (.int ((XT.ushr p1 (3 : Int32)) &&& (7 : Int32))), .val (.ref o1), .val (.ref o6), .val (.ref ad13), .val (.int (f0_o13 p1 p2 q3 cz)), .val (.ref o168), .unset] [(.ref o6)])) _
                                  refine XS.iconst X169.here hx rfl (hb hby at_517) ?_
                                  show Steps p.tables e below (T169.setTop (mkF m 518 #[.val (.int p1), .val (.int p2), .val (.long q3), .second, .val (.int (p1 &&& (7 : Int32))), .val (.int ((XT.ushr p1 (3 : Int32)) &&& (7 : Int32))), .val (.ref o1), .val (.ref o6), .val (.ref ad13), .val (.int (f0_o13 p1 p2 q3 cz)), .val (.ref o168), .unset] [(.int (4 : Int32)), (.ref o6)])) _
                                  refine X169.caload hx (j := (4 : Int32)) (v := (.int (f0_8 p1 p2 q3 cz).toUInt32.toUInt16.toUInt32.toInt32)) Ar178.1 (State.isArrayOf_alike hZ.alike Ar178.2.1) Ar178.2.2 hin178 hat178 (g := (mkF m 518 #[.val (.int p1), .val (.int p2), .val (.long q3), .second, .val (.int (p1 &&& (7 : Int32))), .val (.int ((XT.ushr p1 (3 : Int32)) &&& (7 : Int32))), .val (.ref o1), .val (.ref o6), .val (.ref ad13), .val (.int (f0_o13 p1 p2 q3 cz)), .val (.ref o168), .unset] [(.int (4 : Int32)), (.ref o6)])) rfl rfl (hb hby at_518) _ ?_
                                  show Steps p.tables e below (T169.setTop (mkF m 519 #[.val (.int p1), .val (.int p2), .val (.long q3), .second, .val (.int (p1 &&& (7 : Int32))), .val (.int ((XT.ushr p1 (3 : Int32)) &&& (7 : Int32))), .val (.ref o1), .val (.ref o6), .val (.ref ad13), .val (.int (f0_o13 p1 p2 q3 cz)), .val (.ref o168), .unset] [(.int (f0_8 p1 p2 q3 cz).toUInt32.toUInt16.toUInt32.toInt32)])) _
                                  refine XS.bipush X169.here hx rfl (hb hby at_519) ?_
                                  show Steps p.tables e below (T169.setTop (mkF m 521 #[.val (.int p1), .val (.int p2), .val (.long q3), .second, .val (.int (p1 &&& (7 : Int32))), .val (.int ((XT.ushr p1 (3 : Int32)) &&& (7 : Int32))), .val (.ref o1), .val (.ref o6), .val (.ref ad13), .val (.int (f0_o13 p1 p2 q3 cz)), .val (.ref o168), .unset] [(.int (56 : Int32)), (.int (f0_8 p1 p2 q3 cz).toUInt32.toUInt16.toUInt32.toInt32)])) _
                                  refine st183 _ ?_
                                  exact k
                                · rw [show (f0_21 p1 p2 q3 cz) = (0 : Int32) from if_neg h177] at k
                                  show Steps p.tables e below (T169.setTop (mkF m 512 #[.val (.int p1), .val (.int p2), .val (.long q3), .second, .val (.int (p1 &&& (7 : Int32))), .val (.int ((XT.ushr p1 (3 : Int32)) &&& (7 : Int32))), .val (.ref o1), .val (.ref o6), .val (.ref ad13), .val (.int (f0_o13 p1 p2 q3 cz)), .val (.ref o168), .unset] [(.int (57 : Int32)), (.int (f0_7 p1 p2 q3 cz).toUInt32.toUInt16.toUInt32.toInt32)])) _
                                  refine XS.icmpYes X169.here hx rfl (pc0 := 512) (pc' := 537) rfl (hb hby at_512) rfl (feq h177).2 (by decide) (by decide) ?_
                                  show Steps p.tables e below (T169.setTop (mkF m 537 #[.val (.int p1), .val (.int p2), .val (.long q3), .second, .val (.int (p1 &&& (7 : Int32))), .val (.int ((XT.ushr p1 (3 : Int32)) &&& (7 : Int32))), .val (.ref o1), .val (.ref o6), .val (.ref ad13), .val (.int (f0_o13 p1 p2 q3 cz)), .val (.ref o168), .unset] [])) _
                                  refine XS.iconst X169.here hx rfl (hb hby at_537) ?_
                                  exact k
                              rw [show (f0_22 p1 p2 q3 cz) = (f0_21 p1 p2 q3 cz) from if_pos h175] at k
                              show Steps p.tables e below (T169.setTop (mkF m 503 #[.val (.int p1), .val (.int p2), .val (.long q3), .second, .val (.int (p1 &&& (7 : Int32))), .val (.int ((XT.ushr p1 (3 : Int32)) &&& (7 : Int32))), .val (.ref o1), .val (.ref o6), .val (.ref ad13), .val (.int (f0_o13 p1 p2 q3 cz)), .val (.ref o168), .unset] [(.int (54 : Int32)), (.int (f0_6 p1 p2 q3 cz).toUInt32.toUInt16.toUInt32.toInt32)])) _
                              refine XS.icmpNo X169.here hx rfl (hb hby at_503) rfl (teq h175).2 ?_
                              show Steps p.tables e below (T169.setTop (mkF m 506 #[.val (.int p1), .val (.int p2), .val (.long q3), .second, .val (.int (p1 &&& (7 : Int32))), .val (.int ((XT.ushr p1 (3 : Int32)) &&& (7 : Int32))), .val (.ref o1), .val (.ref o6), .val (.ref ad13), .val (.int (f0_o13 p1 p2 q3 cz)), .val (.ref o168), .unset] [])) _
                              refine XS.aload X169.here hx rfl (hb hby at_506) rfl rfl ?_
                              show Steps p.tables e below (T169.setTop (mkF m 508 #[.val (.int p1), .val (.int p2), .val (.long q3), .second, .val (.int (p1 &&& (7 : Int32))), .val (.int ((XT.ushr p1 (3 : Int32)) &&& (7 : Int32))), .val (.ref o1), .val (.ref o6), .val (.ref ad13), .val (.int (f0_o13 p1 p2 q3 cz)), .val (.ref o168), .unset] [(.ref o6)])) _
                              refine XS.iconst X169.here hx rfl (hb hby at_508) ?_
                              show Steps p.tables e below (T169.setTop (mkF m 509 #[.val (.int p1), .val (.int p2), .val (.long q3), .second, .val (.int (p1 &&& (7 : Int32))), .val (.int ((XT.ushr p1 (3 : Int32)) &&& (7 : Int32))), .val (.ref o1), .val (.ref o6), .val (.ref ad13), .val (.int (f0_o13 p1 p2 q3 cz)), .val (.ref o168), .unset] [(.int (3 : Int32)), (.ref o6)])) _
                              refine X169.caload hx (j := (3 : Int32)) (v := (.int (f0_7 p1 p2 q3 cz).toUInt32.toUInt16.toUInt32.toInt32)) Ar176.1 (State.isArrayOf_alike hZ.alike Ar176.2.1) Ar176.2.2 hin176 hat176 (g := (mkF m 509 #[.val (.int p1), .val (.int p2), .val (.long q3), .second, .val (.int (p1 &&& (7 : Int32))), .val (.int ((XT.ushr p1 (3 : Int32)) &&& (7 : Int32))), .val (.ref o1), .val (.ref o6), .val (.ref ad13), .val (.int (f0_o13 p1 p2 q3 cz)), .val (.ref o168), .unset] [(.int (3 : Int32)), (.ref o6)])) rfl rfl (hb hby at_509) _ ?_
                              show Steps p.tables e below (T169.setTop (mkF m 510 #[.val (.int p1), .val (.int p2), .val (.long q3), .second, .val (.int (p1 &&& (7 : Int32))), .val (.int ((XT.ushr p1 (3 : Int32)) &&& (7 : Int32))), .val (.ref o1), .val (.ref o6), .val (.ref ad13), .val (.int (f0_o13 p1 p2 q3 cz)), .val (.ref o168), .unset] [(.int (f0_7 p1 p2 q3 cz).toUInt32.toUInt16.toUInt32.toInt32)])) _
                              refine XS.bipush X169.here hx rfl (hb hby at_510) ?_
                              show Steps p.tables e below (T169.setTop (mkF m 512 #[.val (.int p1), .val (.int p2), .val (.long q3), .second, .val (.int (p1 &&& (7 : Int32))), .val (.int ((XT.ushr p1 (3 : Int32)) &&& (7 : Int32))), .val (.ref o1), .val (.ref o6), .val (.ref ad13), .val (.int (f0_o13 p1 p2 q3 cz)), .val (.ref o168), .unset] [(.int (57 : Int32)), (.int (f0_7 p1 p2 q3 cz).toUInt32.toUInt16.toUInt32.toInt32)])) _
                              refine st184 _ ?_
                              exact k
                            · rw [show (f0_22 p1 p2 q3 cz) = (0 : Int32) from if_neg h175] at k
                              show Steps p.tables e below (T169.setTop (mkF m 503 #[.val (.int p1), .val (.int p2), .val (.long q3), .second, .val (.int (p1 &&& (7 : Int32))), .val (.int ((XT.ushr p1 (3 : Int32)) &&& (7 : Int32))), .val (.ref o1), .val (.ref o6), .val (.ref ad13), .val (.int (f0_o13 p1 p2 q3 cz)), .val (.ref o168), .unset] [(.int (54 : Int32)), (.int (f0_6 p1 p2 q3 cz).toUInt32.toUInt16.toUInt32.toInt32)])) _
                              refine XS.icmpYes X169.here hx rfl (pc0 := 503) (pc' := 537) rfl (hb hby at_503) rfl (feq h175).2 (by decide) (by decide) ?_
                              show Steps p.tables e below (T169.setTop (mkF m 537 #[.val (.int p1), .val (.int p2), .val (.long q3), .second, .val (.int (p1 &&& (7 : Int32))), .val (.int ((XT.ushr p1 (3 : Int32)) &&& (7 : Int32))), .val (.ref o1), .val (.ref o6), .val (.ref ad13), .val (.int (f0_o13 p1 p2 q3 cz)), .val (.ref o168), .unset] [])) _
                              refine XS.iconst X169.here hx rfl (hb hby at_537) ?_
                              exact k
                          rw [show (f0_23 p1 p2 q3 cz) = (f0_22 p1 p2 q3 cz) from if_pos h173] at k
                          show Steps p.tables e below (T169.setTop (mkF m 494 #[.val (.int p1), .val (.int p2), .val (.long q3), .second, .val (.int (p1 &&& (7 : Int32))), .val (.int ((XT.ushr p1 (3 : Int32)) &&& (7 : Int32))), .val (.ref o1), .val (.ref o6), .val (.ref ad13), .val (.int (f0_o13 p1 p2 q3 cz)), .val (.ref o168), .unset] [(.int (49 : Int32)), (.int (f0_5 p1 p2 q3 cz).toUInt32.toUInt16.toUInt32.toInt32)])) _
                          refine XS.icmpNo X169.here hx rfl (hb hby at_494) rfl (teq h173).2 ?_
                          show Steps p.tables e below (T169.setTop (mkF m 497 #[.val (.int p1), .val (.int p2), .val (.long q3), .second, .val (.int (p1 &&& (7 : Int32))), .val (.int ((XT.ushr p1 (3 : Int32)) &&& (7 : Int32))), .val (.ref o1), .val (.ref o6), .val (.ref ad13), .val (.int (f0_o13 p1 p2 q3 cz)), .val (.ref o168), .unset] [])) _
                          refine XS.aload X169.here hx rfl (hb hby at_497) rfl rfl ?_
                          show Steps p.tables e below (T169.setTop (mkF m 499 #[.val (.int p1), .val (.int p2), .val (.long q3), .second, .val (.int (p1 &&& (7 : Int32))), .val (.int ((XT.ushr p1 (3 : Int32)) &&& (7 : Int32))), .val (.ref o1), .val (.ref o6), .val (.ref ad13), .val (.int (f0_o13 p1 p2 q3 cz)), .val (.ref o168), .unset] [(.ref o6)])) _
                          refine XS.iconst X169.here hx rfl (hb hby at_499) ?_
                          show Steps p.tables e below (T169.setTop (mkF m 500 #[.val (.int p1), .val (.int p2), .val (.long q3), .second, .val (.int (p1 &&& (7 : Int32))), .val (.int ((XT.ushr p1 (3 : Int32)) &&& (7 : Int32))), .val (.ref o1), .val (.ref o6), .val (.ref ad13), .val (.int (f0_o13 p1 p2 q3 cz)), .val (.ref o168), .unset] [(.int (2 : Int32)), (.ref o6)])) _
                          refine X169.caload hx (j := (2 : Int32)) (v := (.int (f0_6 p1 p2 q3 cz).toUInt32.toUInt16.toUInt32.toInt32)) Ar174.1 (State.isArrayOf_alike hZ.alike Ar174.2.1) Ar174.2.2 hin174 hat174 (g := (mkF m 500 #[.val (.int p1), .val (.int p2), .val (.long q3), .second, .val (.int (p1 &&& (7 : Int32))), .val (.int ((XT.ushr p1 (3 : Int32)) &&& (7 : Int32))), .val (.ref o1), .val (.ref o6), .val (.ref ad13), .val (.int (f0_o13 p1 p2 q3 cz)), .val (.ref o168), .unset] [(.int (2 : Int32)), (.ref o6)])) rfl rfl (hb hby at_500) _ ?_
                          show Steps p.tables e below (T169.setTop (mkF m 501 #[.val (.int p1), .val (.int p2), .val (.long q3), .second, .val (.int (p1 &&& (7 : Int32))), .val (.int ((XT.ushr p1 (3 : Int32)) &&& (7 : Int32))), .val (.ref o1), .val (.ref o6), .val (.ref ad13), .val (.int (f0_o13 p1 p2 q3 cz)), .val (.ref o168), .unset] [(.int (f0_6 p1 p2 q3 cz).toUInt32.toUInt16.toUInt32.toInt32)])) _
                          refine XS.bipush X169.here hx rfl (hb hby at_501) ?_
                          show Steps p.tables e below (T169.setTop (mkF m 503 #[.val (.int p1), .val (.int p2), .val (.long q3), .second, .val (.int (p1 &&& (7 : Int32))), .val (.int ((XT.ushr p1 (3 : Int32)) &&& (7 : Int32))), .val (.ref o1), .val (.ref o6), .val (.ref ad13), .val (.int (f0_o13 p1 p2 q3 cz)), .val (.ref o168), .unset] [(.int (54 : Int32)), (.int (f0_6 p1 p2 q3 cz).toUInt32.toUInt16.toUInt32.toInt32)])) _
                          refine st185 _ ?_
                          exact k
                        · rw [show (f0_23 p1 p2 q3 cz) = (0 : Int32) from if_neg h173] at k
                          show Steps p.tables e below (T169.setTop (mkF m 494 #[.val (.int p1), .val (.int p2), .val (.long q3), .second, .val (.int (p1 &&& (7 : Int32))), .val (.int ((XT.ushr p1 (3 : Int32)) &&& (7 : Int32))), .val (.ref o1), .val (.ref o6), .val (.ref ad13), .val (.int (f0_o13 p1 p2 q3 cz)), .val (.ref o168), .unset] [(.int (49 : Int32)), (.int (f0_5 p1 p2 q3 cz).toUInt32.toUInt16.toUInt32.toInt32)])) _
                          refine XS.icmpYes X169.here hx rfl (pc0 := 494) (pc' := 537) rfl (hb hby at_494) rfl (feq h173).2 (by decide) (by decide) ?_
                          show Steps p.tables e below (T169.setTop (mkF m 537 #[.val (.int p1), .val (.int p2), .val (.long q3), .second, .val (.int (p1 &&& (7 : Int32))), .val (.int ((XT.ushr p1 (3 : Int32)) &&& (7 : Int32))), .val (.ref o1), .val (.ref o6), .val (.ref ad13), .val (.int (f0_o13 p1 p2 q3 cz)), .val (.ref o168), .unset] [])) _
                          refine XS.iconst X169.here hx rfl (hb hby at_537) ?_
                          exact k
                      rw [show (f0_24 p1 p2 q3 cz) = (f0_23 p1 p2 q3 cz) from if_pos h171] at k
                      show Steps p.tables e below (T169.setTop (mkF m 485 #[.val (.int p1), .val (.int p2), .val (.long q3), .second, .val (.int (p1 &&& (7 : Int32))), .val (.int ((XT.ushr p1 (3 : Int32)) &&& (7 : Int32))), .val (.ref o1), .val (.ref o6), .val (.ref ad13), .val (.int (f0_o13 p1 p2 q3 cz)), .val (.ref o168), .unset] [(.int (51 : Int32)), (.int (f0_4 p1 p2 q3 cz).toUInt32.toUInt16.toUInt32.toInt32)])) _
                      refine XS.icmpNo X169.here hx rfl (hb hby at_485) rfl (teq h171).2 ?_
                      show Steps p.tables e below (T169.setTop (mkF m 488 #[.val (.int p1), .val (.int p2), .val (.long q3), .second, .val (.int (p1 &&& (7 : Int32))), .val (.int ((XT.ushr p1 (3 : Int32)) &&& (7 : Int32))), .val (.ref o1), .val (.ref o6), .val (.ref ad13), .val (.int (f0_o13 p1 p2 q3 cz)), .val (.ref o168), .unset] [])) _
                      refine XS.aload X169.here hx rfl (hb hby at_488) rfl rfl ?_
                      show Steps p.tables e below (T169.setTop (mkF m 490 #[.val (.int p1), .val (.int p2), .val (.long q3), .second, .val (.int (p1 &&& (7 : Int32))), .val (.int ((XT.ushr p1 (3 : Int32)) &&& (7 : Int32))), .val (.ref o1), .val (.ref o6), .val (.ref ad13), .val (.int (f0_o13 p1 p2 q3 cz)), .val (.ref o168), .unset] [(.ref o6)])) _
                      refine XS.iconst X169.here hx rfl (hb hby at_490) ?_
                      show Steps p.tables e below (T169.setTop (mkF m 491 #[.val (.int p1), .val (.int p2), .val (.long q3), .second, .val (.int (p1 &&& (7 : Int32))), .val (.int ((XT.ushr p1 (3 : Int32)) &&& (7 : Int32))), .val (.ref o1), .val (.ref o6), .val (.ref ad13), .val (.int (f0_o13 p1 p2 q3 cz)), .val (.ref o168), .unset] [(.int (1 : Int32)), (.ref o6)])) _
                      refine X169.caload hx (j := (1 : Int32)) (v := (.int (f0_5 p1 p2 q3 cz).toUInt32.toUInt16.toUInt32.toInt32)) Ar172.1 (State.isArrayOf_alike hZ.alike Ar172.2.1) Ar172.2.2 hin172 hat172 (g := (mkF m 491 #[.val (.int p1), .val (.int p2), .val (.long q3), .second, .val (.int (p1 &&& (7 : Int32))), .val (.int ((XT.ushr p1 (3 : Int32)) &&& (7 : Int32))), .val (.ref o1), .val (.ref o6), .val (.ref ad13), .val (.int (f0_o13 p1 p2 q3 cz)), .val (.ref o168), .unset] [(.int (1 : Int32)), (.ref o6)])) rfl rfl (hb hby at_491) _ ?_
                      show Steps p.tables e below (T169.setTop (mkF m 492 #[.val (.int p1), .val (.int p2), .val (.long q3), .second, .val (.int (p1 &&& (7 : Int32))), .val (.int ((XT.ushr p1 (3 : Int32)) &&& (7 : Int32))), .val (.ref o1), .val (.ref o6), .val (.ref ad13), .val (.int (f0_o13 p1 p2 q3 cz)), .val (.ref o168), .unset] [(.int (f0_5 p1 p2 q3 cz).toUInt32.toUInt16.toUInt32.toInt32)])) _
                      refine XS.bipush X169.here hx rfl (hb hby at_492) ?_
                      show Steps p.tables e below (T169.setTop (mkF m 494 #[.val (.int p1), .val (.int p2), .val (.long q3), .second, .val (.int (p1 &&& (7 : Int32))), .val (.int ((XT.ushr p1 (3 : Int32)) &&& (7 : Int32))), .val (.ref o1), .val (.ref o6), .val (.ref ad13), .val (.int (f0_o13 p1 p2 q3 cz)), .val (.ref o168), .unset] [(.int (49 : Int32)), (.int (f0_5 p1 p2 q3 cz).toUInt32.toUInt16.toUInt32.toInt32)])) _
                      refine st186 _ ?_
                      exact k
                    · rw [show (f0_24 p1 p2 q3 cz) = (0 : Int32) from if_neg h171] at k
                      show Steps p.tables e below (T169.setTop (mkF m 485 #[.val (.int p1), .val (.int p2), .val (.long q3), .second, .val (.int (p1 &&& (7 : Int32))), .val (.int ((XT.ushr p1 (3 : Int32)) &&& (7 : Int32))), .val (.ref o1), .val (.ref o6), .val (.ref ad13), .val (.int (f0_o13 p1 p2 q3 cz)), .val (.ref o168), .unset] [(.int (51 : Int32)), (.int (f0_4 p1 p2 q3 cz).toUInt32.toUInt16.toUInt32.toInt32)])) _
                      refine XS.icmpYes X169.here hx rfl (pc0 := 485) (pc' := 537) rfl (hb hby at_485) rfl (feq h171).2 (by decide) (by decide) ?_
                      show Steps p.tables e below (T169.setTop (mkF m 537 #[.val (.int p1), .val (.int p2), .val (.long q3), .second, .val (.int (p1 &&& (7 : Int32))), .val (.int ((XT.ushr p1 (3 : Int32)) &&& (7 : Int32))), .val (.ref o1), .val (.ref o6), .val (.ref ad13), .val (.int (f0_o13 p1 p2 q3 cz)), .val (.ref o168), .unset] [])) _
                      refine XS.iconst X169.here hx rfl (hb hby at_537) ?_
                      exact k
                  have CR188 := CR13.trans (CHr.ext EE169 CR13.1)
                  have hk188 := Nat.le_trans hk13 EE169.1
                  rw [show (f0_c128 p1 p2 q3 cz) = ([(f0_4 p1 p2 q3 cz).toUInt32.toUInt16.toUInt32.toInt32, (f0_5 p1 p2 q3 cz).toUInt32.toUInt16.toUInt32.toInt32, (f0_6 p1 p2 q3 cz).toUInt32.toUInt16.toUInt32.toInt32, (f0_7 p1 p2 q3 cz).toUInt32.toUInt16.toUInt32.toInt32, (f0_8 p1 p2 q3 cz).toUInt32.toUInt16.toUInt32.toInt32, (f0_9 p1 p2 q3 cz).toUInt32.toUInt16.toUInt32.toInt32] : List Int32) from by simp only [f0_c128, if_neg hc128_0, if_neg hc128_1, if_neg hc128_2, if_neg hc128_3, if_neg hc128_4, if_neg hc128_5], show (f0_o128 p1 p2 q3 cz) = (f0_24 p1 p2 q3 cz) from by simp only [f0_o128, if_neg hc128_0, if_neg hc128_1, if_neg hc128_2, if_neg hc128_3, if_neg hc128_4, if_neg hc128_5]]
                  refine ⟨T169, vm13, _, T169.heap, o168, _, X169.more (by decide) (by decide), rfl, EE169, hS13, hk188, hZ, hown, N169, CR188, T_169, fun t k => ?_⟩
                  show Steps p.tables e below (T13.setTop (mkF m 357 #[.val (.int p1), .val (.int p2), .val (.long q3), .second, .val (.int (p1 &&& (7 : Int32))), .val (.int ((XT.ushr p1 (3 : Int32)) &&& (7 : Int32))), .val (.ref o1), .val (.ref o6), .val (.ref ad13), .val (.int (f0_o13 p1 p2 q3 cz)), .unset, .unset] [])) _
                  refine XS.iload X13.here hx rfl (hb hby at_357) rfl ?_
                  show Steps p.tables e below (T13.setTop (mkF m 359 #[.val (.int p1), .val (.int p2), .val (.long q3), .second, .val (.int (p1 &&& (7 : Int32))), .val (.int ((XT.ushr p1 (3 : Int32)) &&& (7 : Int32))), .val (.ref o1), .val (.ref o6), .val (.ref ad13), .val (.int (f0_o13 p1 p2 q3 cz)), .unset, .unset] [(.int ((XT.ushr p1 (3 : Int32)) &&& (7 : Int32)))])) _
                  refine XS.ifYes X13.here hx rfl (pc0 := 359) (pc' := 372) rfl (hb hby at_359) rfl ((if0 _ _).trans (feq h161).2) (by decide) (by decide) ?_
                  show Steps p.tables e below (T13.setTop (mkF m 372 #[.val (.int p1), .val (.int p2), .val (.long q3), .second, .val (.int (p1 &&& (7 : Int32))), .val (.int ((XT.ushr p1 (3 : Int32)) &&& (7 : Int32))), .val (.ref o1), .val (.ref o6), .val (.ref ad13), .val (.int (f0_o13 p1 p2 q3 cz)), .unset, .unset] [])) _
                  refine XS.iload X13.here hx rfl (hb hby at_372) rfl ?_
                  show Steps p.tables e below (T13.setTop (mkF m 374 #[.val (.int p1), .val (.int p2), .val (.long q3), .second, .val (.int (p1 &&& (7 : Int32))), .val (.int ((XT.ushr p1 (3 : Int32)) &&& (7 : Int32))), .val (.ref o1), .val (.ref o6), .val (.ref ad13), .val (.int (f0_o13 p1 p2 q3 cz)), .unset, .unset] [(.int ((XT.ushr p1 (3 : Int32)) &&& (7 : Int32)))])) _
                  refine XS.iconst X13.here hx rfl (hb hby at_374) ?_
                  show Steps p.tables e below (T13.setTop (mkF m 375 #[.val (.int p1), .val (.int p2), .val (.long q3), .second, .val (.int (p1 &&& (7 : Int32))), .val (.int ((XT.ushr p1 (3 : Int32)) &&& (7 : Int32))), .val (.ref o1), .val (.ref o6), .val (.ref ad13), .val (.int (f0_o13 p1 p2 q3 cz)), .unset, .unset] [(.int (1 : Int32)), (.int ((XT.ushr p1 (3 : Int32)) &&& (7 : Int32)))])) _
                  refine XS.icmpYes X13.here hx rfl (pc0 := 375) (pc' := 387) rfl (hb hby at_375) rfl (feq h162).2 (by decide) (by decide) ?_
                  show Steps p.tables e below (T13.setTop (mkF m 387 #[.val (.int p1), .val (.int p2), .val (.long q3), .second, .val (.int (p1 &&& (7 : Int32))), .val (.int ((XT.ushr p1 (3 : Int32)) &&& (7 : Int32))), .val (.ref o1), .val (.ref o6), .val (.ref ad13), .val (.int (f0_o13 p1 p2 q3 cz)), .unset, .unset] [])) _
                  refine XS.iload X13.here hx rfl (hb hby at_387) rfl ?_
                  show Steps p.tables e below (T13.setTop (mkF m 389 #[.val (.int p1), .val (.int p2), .val (.long q3), .second, .val (.int (p1 &&& (7 : Int32))), .val (.int ((XT.ushr p1 (3 : Int32)) &&& (7 : Int32))), .val (.ref o1), .val (.ref o6), .val (.ref ad13), .val (.int (f0_o13 p1 p2 q3 cz)), .unset, .unset] [(.int ((XT.ushr p1 (3 : Int32)) &&& (7 : Int32)))])) _
                  refine XS.iconst X13.here hx rfl (hb hby at_389) ?_
                  show Steps p.tables e below (T13.setTop (mkF m 390 #[.val (.int p1), .val (.int p2), .val (.long q3), .second, .val (.int (p1 &&& (7 : Int32))), .val (.int ((XT.ushr p1 (3 : Int32)) &&& (7 : Int32))), .val (.ref o1), .val (.ref o6), .val (.ref ad13), .val (.int (f0_o13 p1 p2 q3 cz)), .unset, .unset] [(.int (2 : Int32)), (.int ((XT.ushr p1 (3 : Int32)) &&& (7 : Int32)))])) _
                  refine XS.icmpYes X13.here hx rfl (pc0 := 390) (pc' := 403) rfl (hb hby at_390) rfl (feq h163).2 (by decide) (by decide) ?_
                  show Steps p.tables e below (T13.setTop (mkF m 403 #[.val (.int p1), .val (.int p2), .val (.long q3), .second, .val (.int (p1 &&& (7 : Int32))), .val (.int ((XT.ushr p1 (3 : Int32)) &&& (7 : Int32))), .val (.ref o1), .val (.ref o6), .val (.ref ad13), .val (.int (f0_o13 p1 p2 q3 cz)), .unset, .unset] [])) _
                  refine XS.iload X13.here hx rfl (hb hby at_403) rfl ?_
                  show Steps p.tables e below (T13.setTop (mkF m 405 #[.val (.int p1), .val (.int p2), .val (.long q3), .second, .val (.int (p1 &&& (7 : Int32))), .val (.int ((XT.ushr p1 (3 : Int32)) &&& (7 : Int32))), .val (.ref o1), .val (.ref o6), .val (.ref ad13), .val (.int (f0_o13 p1 p2 q3 cz)), .unset, .unset] [(.int ((XT.ushr p1 (3 : Int32)) &&& (7 : Int32)))])) _
                  refine XS.iconst X13.here hx rfl (hb hby at_405) ?_
                  show Steps p.tables e below (T13.setTop (mkF m 406 #[.val (.int p1), .val (.int p2), .val (.long q3), .second, .val (.int (p1 &&& (7 : Int32))), .val (.int ((XT.ushr p1 (3 : Int32)) &&& (7 : Int32))), .val (.ref o1), .val (.ref o6), .val (.ref ad13), .val (.int (f0_o13 p1 p2 q3 cz)), .unset, .unset] [(.int (3 : Int32)), (.int ((XT.ushr p1 (3 : Int32)) &&& (7 : Int32)))])) _
                  refine XS.icmpYes X13.here hx rfl (pc0 := 406) (pc' := 419) rfl (hb hby at_406) rfl (feq h164).2 (by decide) (by decide) ?_
                  show Steps p.tables e below (T13.setTop (mkF m 419 #[.val (.int p1), .val (.int p2), .val (.long q3), .second, .val (.int (p1 &&& (7 : Int32))), .val (.int ((XT.ushr p1 (3 : Int32)) &&& (7 : Int32))), .val (.ref o1), .val (.ref o6), .val (.ref ad13), .val (.int (f0_o13 p1 p2 q3 cz)), .unset, .unset] [])) _
                  refine XS.iload X13.here hx rfl (hb hby at_419) rfl ?_
                  show Steps p.tables e below (T13.setTop (mkF m 421 #[.val (.int p1), .val (.int p2), .val (.long q3), .second, .val (.int (p1 &&& (7 : Int32))), .val (.int ((XT.ushr p1 (3 : Int32)) &&& (7 : Int32))), .val (.ref o1), .val (.ref o6), .val (.ref ad13), .val (.int (f0_o13 p1 p2 q3 cz)), .unset, .unset] [(.int ((XT.ushr p1 (3 : Int32)) &&& (7 : Int32)))])) _
                  refine XS.iconst X13.here hx rfl (hb hby at_421) ?_
                  show Steps p.tables e below (T13.setTop (mkF m 422 #[.val (.int p1), .val (.int p2), .val (.long q3), .second, .val (.int (p1 &&& (7 : Int32))), .val (.int ((XT.ushr p1 (3 : Int32)) &&& (7 : Int32))), .val (.ref o1), .val (.ref o6), .val (.ref ad13), .val (.int (f0_o13 p1 p2 q3 cz)), .unset, .unset] [(.int (4 : Int32)), (.int ((XT.ushr p1 (3 : Int32)) &&& (7 : Int32)))])) _
                  refine XS.icmpYes X13.here hx rfl (pc0 := 422) (pc' := 435) rfl (hb hby at_422) rfl (feq h165).2 (by decide) (by decide) ?_
                  show Steps p.tables e below (T13.setTop (mkF m 435 #[.val (.int p1), .val (.int p2), .val (.long q3), .second, .val (.int (p1 &&& (7 : Int32))), .val (.int ((XT.ushr p1 (3 : Int32)) &&& (7 : Int32))), .val (.ref o1), .val (.ref o6), .val (.ref ad13), .val (.int (f0_o13 p1 p2 q3 cz)), .unset, .unset] [])) _
                  refine XS.iload X13.here hx rfl (hb hby at_435) rfl ?_
                  show Steps p.tables e below (T13.setTop (mkF m 437 #[.val (.int p1), .val (.int p2), .val (.long q3), .second, .val (.int (p1 &&& (7 : Int32))), .val (.int ((XT.ushr p1 (3 : Int32)) &&& (7 : Int32))), .val (.ref o1), .val (.ref o6), .val (.ref ad13), .val (.int (f0_o13 p1 p2 q3 cz)), .unset, .unset] [(.int ((XT.ushr p1 (3 : Int32)) &&& (7 : Int32)))])) _
                  refine XS.iconst X13.here hx rfl (hb hby at_437) ?_
                  show Steps p.tables e below (T13.setTop (mkF m 438 #[.val (.int p1), .val (.int p2), .val (.long q3), .second, .val (.int (p1 &&& (7 : Int32))), .val (.int ((XT.ushr p1 (3 : Int32)) &&& (7 : Int32))), .val (.ref o1), .val (.ref o6), .val (.ref ad13), .val (.int (f0_o13 p1 p2 q3 cz)), .unset, .unset] [(.int (5 : Int32)), (.int ((XT.ushr p1 (3 : Int32)) &&& (7 : Int32)))])) _
                  refine XS.icmpYes X13.here hx rfl (pc0 := 438) (pc' := 451) rfl (hb hby at_438) rfl (feq h166).2 (by decide) (by decide) ?_
                  show Steps p.tables e below (T13.setTop (mkF m 451 #[.val (.int p1), .val (.int p2), .val (.long q3), .second, .val (.int (p1 &&& (7 : Int32))), .val (.int ((XT.ushr p1 (3 : Int32)) &&& (7 : Int32))), .val (.ref o1), .val (.ref o6), .val (.ref ad13), .val (.int (f0_o13 p1 p2 q3 cz)), .unset, .unset] [])) _
                  refine XS.iload X13.here hx rfl (hb hby at_451) rfl ?_
                  show Steps p.tables e below (T13.setTop (mkF m 453 #[.val (.int p1), .val (.int p2), .val (.long q3), .second, .val (.int (p1 &&& (7 : Int32))), .val (.int ((XT.ushr p1 (3 : Int32)) &&& (7 : Int32))), .val (.ref o1), .val (.ref o6), .val (.ref ad13), .val (.int (f0_o13 p1 p2 q3 cz)), .unset, .unset] [(.int ((XT.ushr p1 (3 : Int32)) &&& (7 : Int32)))])) _
                  refine XS.bipush X13.here hx rfl (hb hby at_453) ?_
                  show Steps p.tables e below (T13.setTop (mkF m 455 #[.val (.int p1), .val (.int p2), .val (.long q3), .second, .val (.int (p1 &&& (7 : Int32))), .val (.int ((XT.ushr p1 (3 : Int32)) &&& (7 : Int32))), .val (.ref o1), .val (.ref o6), .val (.ref ad13), .val (.int (f0_o13 p1 p2 q3 cz)), .unset, .unset] [(.int (6 : Int32)), (.int ((XT.ushr p1 (3 : Int32)) &&& (7 : Int32)))])) _
                  refine XS.icmpYes X13.here hx rfl (pc0 := 455) (pc' := 468) rfl (hb hby at_455) rfl (feq h167).2 (by decide) (by decide) ?_
                  show Steps p.tables e below (T13.setTop (mkF m 468 #[.val (.int p1), .val (.int p2), .val (.long q3), .second, .val (.int (p1 &&& (7 : Int32))), .val (.int ((XT.ushr p1 (3 : Int32)) &&& (7 : Int32))), .val (.ref o1), .val (.ref o6), .val (.ref ad13), .val (.int (f0_o13 p1 p2 q3 cz)), .unset, .unset] [])) _
                  refine st168 _ ?_
                  show Steps p.tables e below (T168.setTop (mkF m 471 #[.val (.int p1), .val (.int p2), .val (.long q3), .second, .val (.int (p1 &&& (7 : Int32))), .val (.int ((XT.ushr p1 (3 : Int32)) &&& (7 : Int32))), .val (.ref o1), .val (.ref o6), .val (.ref ad13), .val (.int (f0_o13 p1 p2 q3 cz)), .unset, .unset] [(.ref o168)])) _
                  refine XS.dup X168.here hx rfl (hb hby at_471) rfl rfl ?_
                  show Steps p.tables e below (T168.setTop (mkF m 472 #[.val (.int p1), .val (.int p2), .val (.long q3), .second, .val (.int (p1 &&& (7 : Int32))), .val (.int ((XT.ushr p1 (3 : Int32)) &&& (7 : Int32))), .val (.ref o1), .val (.ref o6), .val (.ref ad13), .val (.int (f0_o13 p1 p2 q3 cz)), .unset, .unset] [(.ref o168), (.ref o168)])) _
                  refine XS.aload X168.here hx rfl (hb hby at_472) rfl rfl ?_
                  show Steps p.tables e below (T168.setTop (mkF m 474 #[.val (.int p1), .val (.int p2), .val (.long q3), .second, .val (.int (p1 &&& (7 : Int32))), .val (.int ((XT.ushr p1 (3 : Int32)) &&& (7 : Int32))), .val (.ref o1), .val (.ref o6), .val (.ref ad13), .val (.int (f0_o13 p1 p2 q3 cz)), .unset, .unset] [(.ref o6), (.ref o168), (.ref o168)])) _
                  refine st169.trans ?_
                  show Steps p.tables e below (T169.setTop (mkF m 477 #[.val (.int p1), .val (.int p2), .val (.long q3), .second, .val (.int (p1 &&& (7 : Int32))), .val (.int ((XT.ushr p1 (3 : Int32)) &&& (7 : Int32))), .val (.ref o1), .val (.ref o6), .val (.ref ad13), .val (.int (f0_o13 p1 p2 q3 cz)), .unset, .unset] [(.ref o168)])) _
                  refine XS.astore X169.here hx rfl (hb hby at_477) rfl rfl (l' := #[.val (.int p1), .val (.int p2), .val (.long q3), .second, .val (.int (p1 &&& (7 : Int32))), .val (.int ((XT.ushr p1 (3 : Int32)) &&& (7 : Int32))), .val (.ref o1), .val (.ref o6), .val (.ref ad13), .val (.int (f0_o13 p1 p2 q3 cz)), .val (.ref o168), .unset]) rfl ?_
                  show Steps p.tables e below (T169.setTop (mkF m 479 #[.val (.int p1), .val (.int p2), .val (.long q3), .second, .val (.int (p1 &&& (7 : Int32))), .val (.int ((XT.ushr p1 (3 : Int32)) &&& (7 : Int32))), .val (.ref o1), .val (.ref o6), .val (.ref ad13), .val (.int (f0_o13 p1 p2 q3 cz)), .val (.ref o168), .unset] [])) _
                  refine XS.aload X169.here hx rfl (hb hby at_479) rfl rfl ?_
                  show Steps p.tables e below (T169.setTop (mkF m 481 #[.val (.int p1), .val (.int p2), .val (.long q3), .second, .val (.int (p1 &&& (7 : Int32))), .val (.int ((XT.ushr p1 (3 : Int32)) &&& (7 : Int32))), .val (.ref o1), .val (.ref o6), .val (.ref ad13), .val (.int (f0_o13 p1 p2 q3 cz)), .val (.ref o168), .unset] [(.ref o6)])) _
                  refine XS.iconst X169.here hx rfl (hb hby at_481) ?_
                  show Steps p.tables e below (T169.setTop (mkF m 482 #[.val (.int p1), .val (.int p2), .val (.long q3), .second, .val (.int (p1 &&& (7 : Int32))), .val (.int ((XT.ushr p1 (3 : Int32)) &&& (7 : Int32))), .val (.ref o1), .val (.ref o6), .val (.ref ad13), .val (.int (f0_o13 p1 p2 q3 cz)), .val (.ref o168), .unset] [(.int (0 : Int32)), (.ref o6)])) _
                  refine X169.caload hx (j := (0 : Int32)) (v := (.int (f0_4 p1 p2 q3 cz).toUInt32.toUInt16.toUInt32.toInt32)) Ar170.1 (State.isArrayOf_alike hZ.alike Ar170.2.1) Ar170.2.2 hin170 hat170 (g := (mkF m 482 #[.val (.int p1), .val (.int p2), .val (.long q3), .second, .val (.int (p1 &&& (7 : Int32))), .val (.int ((XT.ushr p1 (3 : Int32)) &&& (7 : Int32))), .val (.ref o1), .val (.ref o6), .val (.ref ad13), .val (.int (f0_o13 p1 p2 q3 cz)), .val (.ref o168), .unset] [(.int (0 : Int32)), (.ref o6)])) rfl rfl (hb hby at_482) _ ?_
                  show Steps p.tables e below (T169.setTop (mkF m 483 #[.val (.int p1), .val (.int p2), .val (.long q3), .second, .val (.int (p1 &&& (7 : Int32))), .val (.int ((XT.ushr p1 (3 : Int32)) &&& (7 : Int32))), .val (.ref o1), .val (.ref o6), .val (.ref ad13), .val (.int (f0_o13 p1 p2 q3 cz)), .val (.ref o168), .unset] [(.int (f0_4 p1 p2 q3 cz).toUInt32.toUInt16.toUInt32.toInt32)])) _
                  refine XS.bipush X169.here hx rfl (hb hby at_483) ?_
                  show Steps p.tables e below (T169.setTop (mkF m 485 #[.val (.int p1), .val (.int p2), .val (.long q3), .second, .val (.int (p1 &&& (7 : Int32))), .val (.int ((XT.ushr p1 (3 : Int32)) &&& (7 : Int32))), .val (.ref o1), .val (.ref o6), .val (.ref ad13), .val (.int (f0_o13 p1 p2 q3 cz)), .val (.ref o168), .unset] [(.int (51 : Int32)), (.int (f0_4 p1 p2 q3 cz).toUInt32.toUInt16.toUInt32.toInt32)])) _
                  refine st187 _ ?_
                  show Steps p.tables e below (T169.setTop (mkF m 538 #[.val (.int p1), .val (.int p2), .val (.long q3), .second, .val (.int (p1 &&& (7 : Int32))), .val (.int ((XT.ushr p1 (3 : Int32)) &&& (7 : Int32))), .val (.ref o1), .val (.ref o6), .val (.ref ad13), .val (.int (f0_o13 p1 p2 q3 cz)), .val (.ref o168), .unset] [(.int (f0_24 p1 p2 q3 cz))])) _
                  refine XS.istore X169.here hx rfl (hb hby at_538) rfl (l' := #[.val (.int p1), .val (.int p2), .val (.long q3), .second, .val (.int (p1 &&& (7 : Int32))), .val (.int ((XT.ushr p1 (3 : Int32)) &&& (7 : Int32))), .val (.ref o1), .val (.ref o6), .val (.ref ad13), .val (.int (f0_o13 p1 p2 q3 cz)), .val (.ref o168), .val (.int (f0_24 p1 p2 q3 cz))]) rfl ?_
                  exact k
    have u128_0 := u13_0.ext E128
    have u128_1 := u13_1.ext E128
    have u128_2 := TT13.ext E128
    have u128_3 := (own_Str.exa TT13).ext E128
    have Z128 : n0 ≤ h128.size := Nat.le_trans Z13 E128.1
    have K128 := K13.ext E128
    have OL128 := OL13.ext E128
    obtain ⟨_, _, ⟨T189, L189, k189, n189⟩, -, Xw189, hsn189, hgr189, ⟨Lc189, hQ189, l189, y189, z189, CH189⟩, st189⟩ := callSS X128 hx (y := (⟨"com/example/medspan/medspan/Opioids", "isPatch", "(Ljava/lang/String;Ljava/lang/String;)Z"⟩ : MethodName)) hown (mvT hZ (hw _ (List.mem_of_getElem? (i := 11) rfl))) (mvT hZ (hw _ (List.mem_of_getElem? (i := 12) rfl))) (mvT hZ (hw _ (List.mem_of_getElem? (i := 13) rfl))) (mvT hZ (hw _ (List.mem_of_getElem? (i := 14) rfl))) (by decide) (backOfSH (s := s) (W := 0) (rmpat l Z a0 hw [] ad13 ad128 (f0_c13 p1 p2 q3 cz) (f0_c128 p1 p2 q3 cz) cz h128 n0 Z128 OL128 u128_2 TT128 hCS hcz) hZ (hw _ (List.mem_of_getElem? (i := 14) rfl)) (hw _ (List.mem_of_getElem? (i := 13) rfl)) (by decide) (by decide) (own_EW hw) CR128.1) (g := (mkF m 544 #[.val (.int p1), .val (.int p2), .val (.long q3), .second, .val (.int (p1 &&& (7 : Int32))), .val (.int ((XT.ushr p1 (3 : Int32)) &&& (7 : Int32))), .val (.ref o1), .val (.ref o6), .val (.ref ad13), .val (.int (f0_o13 p1 p2 q3 cz)), .val (.ref ad128), .val (.int (f0_o128 p1 p2 q3 cz))] [(.ref ad128), (.ref ad13)])) rfl (by rw [hml]; rfl) (argsL := [(.ref ad13), (.ref ad128)]) (rest := []) (lenOf pd_2 rfl) rfl (by show 2 * 0 + _ ≤ _; exact Nat.le_of_eq rfl) (hb hby at_544) (fun _ _ => ⟨rfl, e128, (by decide : 6 + 6 ≤ _), (by decide : 66 + 68 ≤ _)⟩)
    dsimp only [Pt.U, Pt.locs, Pt.cells, Pt.slots] at Xw189 l189 y189 z189 st189 hQ189 hsn189 hgr189 CH189
    subst l189 y189 z189
    obtain ⟨X189, hS189, hZ, hown⟩ := rebS hS128 (by rw [e128]; exact hk128) Xw189 hsn189 hgr189 hZ hown
    obtain ⟨rfl, N189q, Ee189⟩ := hQ189
    have N189 := Fr.app N128 N189q
    have K189 := K128.ext Ee189
    have CR189 := CR128.trans CH189
    have hk189 : T189.heap.size ≤ T189.heap.size := Nat.le_refl _
    have st193 : ∀ t, Steps p.tables e below (T189.setTop (mkF m 562 #[.val (.int p1), .val (.int p2), .val (.long q3), .second, .val (.int (p1 &&& (7 : Int32))), .val (.int ((XT.ushr p1 (3 : Int32)) &&& (7 : Int32))), .val (.ref o1), .val (.ref o6), .val (.ref ad13), .val (.int (f0_o13 p1 p2 q3 cz)), .val (.ref ad128), .val (.int (f0_o128 p1 p2 q3 cz))] [(.int (f0_26 p1 p2 q3 cz)), (.int (fpat (f0_c13 p1 p2 q3 cz) (f0_c128 p1 p2 q3 cz) cz))])) t → Steps p.tables e below (T189.setTop (mkF m 549 #[.val (.int p1), .val (.int p2), .val (.long q3), .second, .val (.int (p1 &&& (7 : Int32))), .val (.int ((XT.ushr p1 (3 : Int32)) &&& (7 : Int32))), .val (.ref o1), .val (.ref o6), .val (.ref ad13), .val (.int (f0_o13 p1 p2 q3 cz)), .val (.ref ad128), .val (.int (f0_o128 p1 p2 q3 cz))] [(.int (f0_o13 p1 p2 q3 cz)), (.int (fpat (f0_c13 p1 p2 q3 cz) (f0_c128 p1 p2 q3 cz) cz))])) t := by
      intro t k
      by_cases h190 : (f0_o13 p1 p2 q3 cz) = (0 : Int32)
      · rw [show (f0_26 p1 p2 q3 cz) = (0 : Int32) from if_pos h190] at k
        show Steps p.tables e below (T189.setTop (mkF m 549 #[.val (.int p1), .val (.int p2), .val (.long q3), .second, .val (.int (p1 &&& (7 : Int32))), .val (.int ((XT.ushr p1 (3 : Int32)) &&& (7 : Int32))), .val (.ref o1), .val (.ref o6), .val (.ref ad13), .val (.int (f0_o13 p1 p2 q3 cz)), .val (.ref ad128), .val (.int (f0_o128 p1 p2 q3 cz))] [(.int (f0_o13 p1 p2 q3 cz)), (.int (fpat (f0_c13 p1 p2 q3 cz) (f0_c128 p1 p2 q3 cz) cz))])) _
        refine XS.ifYes X189.here hx rfl (pc0 := 549) (pc' := 561) rfl (hb hby at_549) rfl ((if0 _ _).trans (teq h190).1) (by decide) (by decide) ?_
        show Steps p.tables e below (T189.setTop (mkF m 561 #[.val (.int p1), .val (.int p2), .val (.long q3), .second, .val (.int (p1 &&& (7 : Int32))), .val (.int ((XT.ushr p1 (3 : Int32)) &&& (7 : Int32))), .val (.ref o1), .val (.ref o6), .val (.ref ad13), .val (.int (f0_o13 p1 p2 q3 cz)), .val (.ref ad128), .val (.int (f0_o128 p1 p2 q3 cz))] [(.int (fpat (f0_c13 p1 p2 q3 cz) (f0_c128 p1 p2 q3 cz) cz))])) _
        refine XS.iconst X189.here hx rfl (hb hby at_561) ?_
        exact k
      · have st192 : ∀ t, Steps p.tables e below (T189.setTop (mkF m 562 #[.val (.int p1), .val (.int p2), .val (.long q3), .second, .val (.int (p1 &&& (7 : Int32))), .val (.int ((XT.ushr p1 (3 : Int32)) &&& (7 : Int32))), .val (.ref o1), .val (.ref o6), .val (.ref ad13), .val (.int (f0_o13 p1 p2 q3 cz)), .val (.ref ad128), .val (.int (f0_o128 p1 p2 q3 cz))] [(.int (f0_25 p1 p2 q3 cz)), (.int (fpat (f0_c13 p1 p2 q3 cz) (f0_c128 p1 p2 q3 cz) cz))])) t → Steps p.tables e below (T189.setTop (mkF m 554 #[.val (.int p1), .val (.int p2), .val (.long q3), .second, .val (.int (p1 &&& (7 : Int32))), .val (.int ((XT.ushr p1 (3 : Int32)) &&& (7 : Int32))), .val (.ref o1), .val (.ref o6), .val (.ref ad13), .val (.int (f0_o13 p1 p2 q3 cz)), .val (.ref ad128), .val (.int (f0_o128 p1 p2 q3 cz))] [(.int (f0_o128 p1 p2 q3 cz)), (.int (fpat (f0_c13 p1 p2 q3 cz) (f0_c128 p1 p2 q3 cz) cz))])) t := by
          intro t k
          by_cases h191 : (f0_o128 p1 p2 q3 cz) = (0 : Int32)
          · rw [show (f0_25 p1 p2 q3 cz) = (0 : Int32) from if_pos h191] at k
            show Steps p.tables e below (T189.setTop (mkF m 554 #[.val (.int p1), .val (.int p2), .val (.long q3), .second, .val (.int (p1 &&& (7 : Int32))), .val (.int ((XT.ushr p1 (3 : Int32)) &&& (7 : Int32))), .val (.ref o1), .val (.ref o6), .val (.ref ad13), .val (.int (f0_o13 p1 p2 q3 cz)), .val (.ref ad128), .val (.int (f0_o128 p1 p2 q3 cz))] [(.int (f0_o128 p1 p2 q3 cz)), (.int (fpat (f0_c13 p1 p2 q3 cz) (f0_c128 p1 p2 q3 cz) cz))])) _
            refine XS.ifYes X189.here hx rfl (pc0 := 554) (pc' := 561) rfl (hb hby at_554) rfl ((if0 _ _).trans (teq h191).1) (by decide) (by decide) ?_
            show Steps p.tables e below (T189.setTop (mkF m 561 #[.val (.int p1), .val (.int p2), .val (.long q3), .second, .val (.int (p1 &&& (7 : Int32))), .val (.int ((XT.ushr p1 (3 : Int32)) &&& (7 : Int32))), .val (.ref o1), .val (.ref o6), .val (.ref ad13), .val (.int (f0_o13 p1 p2 q3 cz)), .val (.ref ad128), .val (.int (f0_o128 p1 p2 q3 cz))] [(.int (fpat (f0_c13 p1 p2 q3 cz) (f0_c128 p1 p2 q3 cz) cz))])) _
            refine XS.iconst X189.here hx rfl (hb hby at_561) ?_
            exact k
          · rw [show (f0_25 p1 p2 q3 cz) = (1 : Int32) from if_neg h191] at k
            show Steps p.tables e below (T189.setTop (mkF m 554 #[.val (.int p1), .val (.int p2), .val (.long q3), .second, .val (.int (p1 &&& (7 : Int32))), .val (.int ((XT.ushr p1 (3 : Int32)) &&& (7 : Int32))), .val (.ref o1), .val (.ref o6), .val (.ref ad13), .val (.int (f0_o13 p1 p2 q3 cz)), .val (.ref ad128), .val (.int (f0_o128 p1 p2 q3 cz))] [(.int (f0_o128 p1 p2 q3 cz)), (.int (fpat (f0_c13 p1 p2 q3 cz) (f0_c128 p1 p2 q3 cz) cz))])) _
            refine XS.ifNo X189.here hx rfl (hb hby at_554) rfl ((if0 _ _).trans (feq h191).1) ?_
            show Steps p.tables e below (T189.setTop (mkF m 557 #[.val (.int p1), .val (.int p2), .val (.long q3), .second, .val (.int (p1 &&& (7 : Int32))), .val (.int ((XT.ushr p1 (3 : Int32)) &&& (7 : Int32))), .val (.ref o1), .val (.ref o6), .val (.ref ad13), .val (.int (f0_o13 p1 p2 q3 cz)), .val (.ref ad128), .val (.int (f0_o128 p1 p2 q3 cz))] [(.int (fpat (f0_c13 p1 p2 q3 cz) (f0_c128 p1 p2 q3 cz) cz))])) _
            refine XS.iconst X189.here hx rfl (hb hby at_557) ?_
            show Steps p.tables e below (T189.setTop (mkF m 558 #[.val (.int p1), .val (.int p2), .val (.long q3), .second, .val (.int (p1 &&& (7 : Int32))), .val (.int ((XT.ushr p1 (3 : Int32)) &&& (7 : Int32))), .val (.ref o1), .val (.ref o6), .val (.ref ad13), .val (.int (f0_o13 p1 p2 q3 cz)), .val (.ref ad128), .val (.int (f0_o128 p1 p2 q3 cz))] [(.int (1 : Int32)), (.int (fpat (f0_c13 p1 p2 q3 cz) (f0_c128 p1 p2 q3 cz) cz))])) _
            refine XS.goto X189.here hx rfl (pc0 := 558) (pc' := 562) rfl (hb hby at_558) (by decide) (by decide) ?_
            exact k
        rw [show (f0_26 p1 p2 q3 cz) = (f0_25 p1 p2 q3 cz) from if_neg h190] at k
        show Steps p.tables e below (T189.setTop (mkF m 549 #[.val (.int p1), .val (.int p2), .val (.long q3), .second, .val (.int (p1 &&& (7 : Int32))), .val (.int ((XT.ushr p1 (3 : Int32)) &&& (7 : Int32))), .val (.ref o1), .val (.ref o6), .val (.ref ad13), .val (.int (f0_o13 p1 p2 q3 cz)), .val (.ref ad128), .val (.int (f0_o128 p1 p2 q3 cz))] [(.int (f0_o13 p1 p2 q3 cz)), (.int (fpat (f0_c13 p1 p2 q3 cz) (f0_c128 p1 p2 q3 cz) cz))])) _
        refine XS.ifNo X189.here hx rfl (hb hby at_549) rfl ((if0 _ _).trans (feq h190).1) ?_
        show Steps p.tables e below (T189.setTop (mkF m 552 #[.val (.int p1), .val (.int p2), .val (.long q3), .second, .val (.int (p1 &&& (7 : Int32))), .val (.int ((XT.ushr p1 (3 : Int32)) &&& (7 : Int32))), .val (.ref o1), .val (.ref o6), .val (.ref ad13), .val (.int (f0_o13 p1 p2 q3 cz)), .val (.ref ad128), .val (.int (f0_o128 p1 p2 q3 cz))] [(.int (fpat (f0_c13 p1 p2 q3 cz) (f0_c128 p1 p2 q3 cz) cz))])) _
        refine XS.iload X189.here hx rfl (hb hby at_552) rfl ?_
        show Steps p.tables e below (T189.setTop (mkF m 554 #[.val (.int p1), .val (.int p2), .val (.long q3), .second, .val (.int (p1 &&& (7 : Int32))), .val (.int ((XT.ushr p1 (3 : Int32)) &&& (7 : Int32))), .val (.ref o1), .val (.ref o6), .val (.ref ad13), .val (.int (f0_o13 p1 p2 q3 cz)), .val (.ref ad128), .val (.int (f0_o128 p1 p2 q3 cz))] [(.int (f0_o128 p1 p2 q3 cz)), (.int (fpat (f0_c13 p1 p2 q3 cz) (f0_c128 p1 p2 q3 cz) cz))])) _
        refine st192 _ ?_
        exact k
    have st195 : ∀ t, Steps p.tables e below (T189.setTop (mkF m 570 #[.val (.int p1), .val (.int p2), .val (.long q3), .second, .val (.int (p1 &&& (7 : Int32))), .val (.int ((XT.ushr p1 (3 : Int32)) &&& (7 : Int32))), .val (.ref o1), .val (.ref o6), .val (.ref ad13), .val (.int (f0_o13 p1 p2 q3 cz)), .val (.ref ad128), .val (.int (f0_o128 p1 p2 q3 cz))] [(.int (f0_27 p1 p2 q3 cz))])) t → Steps p.tables e below (T189.setTop (mkF m 562 #[.val (.int p1), .val (.int p2), .val (.long q3), .second, .val (.int (p1 &&& (7 : Int32))), .val (.int ((XT.ushr p1 (3 : Int32)) &&& (7 : Int32))), .val (.ref o1), .val (.ref o6), .val (.ref ad13), .val (.int (f0_o13 p1 p2 q3 cz)), .val (.ref ad128), .val (.int (f0_o128 p1 p2 q3 cz))] [(.int (f0_26 p1 p2 q3 cz)), (.int (fpat (f0_c13 p1 p2 q3 cz) (f0_c128 p1 p2 q3 cz) cz))])) t := by
      intro t k
      by_cases h194 : (fpat (f0_c13 p1 p2 q3 cz) (f0_c128 p1 p2 q3 cz) cz) = (f0_26 p1 p2 q3 cz)
      · rw [show (f0_27 p1 p2 q3 cz) = (1 : Int32) from if_pos h194] at k
        show Steps p.tables e below (T189.setTop (mkF m 562 #[.val (.int p1), .val (.int p2), .val (.long q3), .second, .val (.int (p1 &&& (7 : Int32))), .val (.int ((XT.ushr p1 (3 : Int32)) &&& (7 : Int32))), .val (.ref o1), .val (.ref o6), .val (.ref ad13), .val (.int (f0_o13 p1 p2 q3 cz)), .val (.ref ad128), .val (.int (f0_o128 p1 p2 q3 cz))] [(.int (f0_26 p1 p2 q3 cz)), (.int (fpat (f0_c13 p1 p2 q3 cz) (f0_c128 p1 p2 q3 cz) cz))])) _
        refine XS.icmpNo X189.here hx rfl (hb hby at_562) rfl (teq h194).2 ?_
        show Steps p.tables e below (T189.setTop (mkF m 565 #[.val (.int p1), .val (.int p2), .val (.long q3), .second, .val (.int (p1 &&& (7 : Int32))), .val (.int ((XT.ushr p1 (3 : Int32)) &&& (7 : Int32))), .val (.ref o1), .val (.ref o6), .val (.ref ad13), .val (.int (f0_o13 p1 p2 q3 cz)), .val (.ref ad128), .val (.int (f0_o128 p1 p2 q3 cz))] [])) _
        refine XS.iconst X189.here hx rfl (hb hby at_565) ?_
        show Steps p.tables e below (T189.setTop (mkF m 566 #[.val (.int p1), .val (.int p2), .val (.long q3), .second, .val (.int (p1 &&& (7 : Int32))), .val (.int ((XT.ushr p1 (3 : Int32)) &&& (7 : Int32))), .val (.ref o1), .val (.ref o6), .val (.ref ad13), .val (.int (f0_o13 p1 p2 q3 cz)), .val (.ref ad128), .val (.int (f0_o128 p1 p2 q3 cz))] [(.int (1 : Int32))])) _
        refine XS.goto X189.here hx rfl (pc0 := 566) (pc' := 570) rfl (hb hby at_566) (by decide) (by decide) ?_
        exact k
      · rw [show (f0_27 p1 p2 q3 cz) = (0 : Int32) from if_neg h194] at k
        show Steps p.tables e below (T189.setTop (mkF m 562 #[.val (.int p1), .val (.int p2), .val (.long q3), .second, .val (.int (p1 &&& (7 : Int32))), .val (.int ((XT.ushr p1 (3 : Int32)) &&& (7 : Int32))), .val (.ref o1), .val (.ref o6), .val (.ref ad13), .val (.int (f0_o13 p1 p2 q3 cz)), .val (.ref ad128), .val (.int (f0_o128 p1 p2 q3 cz))] [(.int (f0_26 p1 p2 q3 cz)), (.int (fpat (f0_c13 p1 p2 q3 cz) (f0_c128 p1 p2 q3 cz) cz))])) _
        refine XS.icmpYes X189.here hx rfl (pc0 := 562) (pc' := 569) rfl (hb hby at_562) rfl (feq h194).2 (by decide) (by decide) ?_
        show Steps p.tables e below (T189.setTop (mkF m 569 #[.val (.int p1), .val (.int p2), .val (.long q3), .second, .val (.int (p1 &&& (7 : Int32))), .val (.int ((XT.ushr p1 (3 : Int32)) &&& (7 : Int32))), .val (.ref o1), .val (.ref o6), .val (.ref ad13), .val (.int (f0_o13 p1 p2 q3 cz)), .val (.ref ad128), .val (.int (f0_o128 p1 p2 q3 cz))] [])) _
        refine XS.iconst X189.here hx rfl (hb hby at_569) ?_
        exact k
    obtain ⟨fs, hr, hrun, hended, hREW⟩ := X189.leaveW hS189 hk189 (v := some (.int ((f0_27 p1 p2 q3 cz) &&& 1))) (fun h => by rw [Bd.returns] at h; cases h)
    refine ⟨_, _, ?_, hrun, hended, _, _, rfl, ?_, (show CHr Z consts_1 s.vm s.heap T189.vm T189.heap from by rw [hh]; exact CR189.trans (CHv.at X189 hZ (own_EW hw) CR189.1)), hREW.1, hREW.2.1, hREW.2.2.1, hREW.2.2.2.mono (by decide) (by decide)⟩
    · show Steps p.tables e below (T13.setTop (mkF m 357 #[.val (.int p1), .val (.int p2), .val (.long q3), .second, .val (.int (p1 &&& (7 : Int32))), .val (.int ((XT.ushr p1 (3 : Int32)) &&& (7 : Int32))), .val (.ref o1), .val (.ref o6), .val (.ref ad13), .val (.int (f0_o13 p1 p2 q3 cz)), .unset, .unset] [])) _
      refine st128 _ ?_
      show Steps p.tables e below (T128.setTop (mkF m 540 #[.val (.int p1), .val (.int p2), .val (.long q3), .second, .val (.int (p1 &&& (7 : Int32))), .val (.int ((XT.ushr p1 (3 : Int32)) &&& (7 : Int32))), .val (.ref o1), .val (.ref o6), .val (.ref ad13), .val (.int (f0_o13 p1 p2 q3 cz)), .val (.ref ad128), .val (.int (f0_o128 p1 p2 q3 cz))] [])) _
      refine XS.aload X128.here hx rfl (hb hby at_540) rfl rfl ?_
      show Steps p.tables e below (T128.setTop (mkF m 542 #[.val (.int p1), .val (.int p2), .val (.long q3), .second, .val (.int (p1 &&& (7 : Int32))), .val (.int ((XT.ushr p1 (3 : Int32)) &&& (7 : Int32))), .val (.ref o1), .val (.ref o6), .val (.ref ad13), .val (.int (f0_o13 p1 p2 q3 cz)), .val (.ref ad128), .val (.int (f0_o128 p1 p2 q3 cz))] [(.ref ad13)])) _
      refine XS.aload X128.here hx rfl (hb hby at_542) rfl rfl ?_
      show Steps p.tables e below (T128.setTop (mkF m 544 #[.val (.int p1), .val (.int p2), .val (.long q3), .second, .val (.int (p1 &&& (7 : Int32))), .val (.int ((XT.ushr p1 (3 : Int32)) &&& (7 : Int32))), .val (.ref o1), .val (.ref o6), .val (.ref ad13), .val (.int (f0_o13 p1 p2 q3 cz)), .val (.ref ad128), .val (.int (f0_o128 p1 p2 q3 cz))] [(.ref ad128), (.ref ad13)])) _
      refine st189.trans ?_
      show Steps p.tables e below (T189.setTop (mkF m 547 #[.val (.int p1), .val (.int p2), .val (.long q3), .second, .val (.int (p1 &&& (7 : Int32))), .val (.int ((XT.ushr p1 (3 : Int32)) &&& (7 : Int32))), .val (.ref o1), .val (.ref o6), .val (.ref ad13), .val (.int (f0_o13 p1 p2 q3 cz)), .val (.ref ad128), .val (.int (f0_o128 p1 p2 q3 cz))] [(.int (fpat (f0_c13 p1 p2 q3 cz) (f0_c128 p1 p2 q3 cz) cz))])) _
      refine XS.iload X189.here hx rfl (hb hby at_547) rfl ?_
      show Steps p.tables e below (T189.setTop (mkF m 549 #[.val (.int p1), .val (.int p2), .val (.long q3), .second, .val (.int (p1 &&& (7 : Int32))), .val (.int ((XT.ushr p1 (3 : Int32)) &&& (7 : Int32))), .val (.ref o1), .val (.ref o6), .val (.ref ad13), .val (.int (f0_o13 p1 p2 q3 cz)), .val (.ref ad128), .val (.int (f0_o128 p1 p2 q3 cz))] [(.int (f0_o13 p1 p2 q3 cz)), (.int (fpat (f0_c13 p1 p2 q3 cz) (f0_c128 p1 p2 q3 cz) cz))])) _
      refine st193 _ ?_
      show Steps p.tables e below (T189.setTop (mkF m 562 #[.val (.int p1), .val (.int p2), .val (.long q3), .second, .val (.int (p1 &&& (7 : Int32))), .val (.int ((XT.ushr p1 (3 : Int32)) &&& (7 : Int32))), .val (.ref o1), .val (.ref o6), .val (.ref ad13), .val (.int (f0_o13 p1 p2 q3 cz)), .val (.ref ad128), .val (.int (f0_o128 p1 p2 q3 cz))] [(.int (f0_26 p1 p2 q3 cz)), (.int (fpat (f0_c13 p1 p2 q3 cz) (f0_c128 p1 p2 q3 cz) cz))])) _
      refine st195 _ ?_
      show Steps p.tables e below (T189.setTop (mkF m 570 #[.val (.int p1), .val (.int p2), .val (.long q3), .second, .val (.int (p1 &&& (7 : Int32))), .val (.int ((XT.ushr p1 (3 : Int32)) &&& (7 : Int32))), .val (.ref o1), .val (.ref o6), .val (.ref ad13), .val (.int (f0_o13 p1 p2 q3 cz)), .val (.ref ad128), .val (.int (f0_o128 p1 p2 q3 cz))] [(.int (f0_27 p1 p2 q3 cz))])) _
      exact retN X189 hx (t := .boolean) Bd.returns (by simp) (hb hby at_570) hr
    · show Q0 Z p1 p2 q3 cz h0 n0 _ T189.heap _
      exact ⟨congrArg (fun z => some (Value.int z)) ((show f0 p1 p2 q3 cz = ((f0_27 p1 p2 q3 cz) &&& 1) from by simp only [f0, if_neg hd1]).symm.trans (own_law p1 p2 q3 cz)), N189⟩
set_option maxRecDepth 65536 in
set_option maxHeartbeats 40000000 in
theorem comes_1 {Post : Tables → Env → Array Value → State → Outcome → State → Prop} (hpost : ∀ tb e args s v u, (limb_1_1.after args s (.returned v) u = true ∧ limb_1_2.after args s (.returned v) u = true ∧ True) → ReturnedEndW s (.returned v) u (Jvm.fieldLocs frame_1_writes args s ++ Jvm.arrayLocs frame_1_arrays args s ++ Jvm.staticLocs frame_1_statics s) 48 14528 → Post tb e args s (.returned v) u) :
    ArmFor flags0 classFile x code maxLocals ret World_1 tables_1 room_1 Calls_1 rest_1 Pre_1 Post := by
  intro l hfl _ _ p e ha hc hk s m args below hf hA hF happ hP
  obtain ⟨hcalls, hrest, hpre⟩ := hP
  obtain ⟨-, -, -, hnamed, -, -, -, hat⟩ := (Spec.applies_iff hf).mp happ
  obtain ⟨hg, hn⟩ := and_e (Cond.before_iff.mp (show (Jvm.Cond.and given_1 narrow_1).before args s = true from hpre))
  obtain ⟨hcnt, hg0⟩ := and_e hg
  obtain ⟨hi0, hg1⟩ := and_e hg0
  obtain ⟨hi1, hg2⟩ := and_e hg1
  obtain ⟨w0, w1, w2, rfl⟩ : ∃ w0 w1 w2 : Value, args = #[w0, w1, w2] := by
    have hs : args.size = 3 := by simpa [Cond.value, given_1] using hcnt
    obtain ⟨L⟩ := args
    match L, hs with
    | [w0, w1, w2], _ => exact ⟨w0, w1, w2, rfl⟩
  have hw := fun d (hd : d ∈ tables_1) => atoms_spec (ws := Jvm.Cond.code x code maxLocals ret :: tables_1) hat d (List.mem_cons_of_mem _ hd)
  have hfit : Fit s := fun {y c} hc i hi => by
    obtain ⟨ha, rfl⟩ := Array.getElem?_eq_some_iff.mp hc
    have q := List.all_eq_true.mp ((Array.all_eq_true_iff_forall_mem.mp hF) _ (Array.getElem_mem ha)) i (List.mem_range.mpr hi)
    simpa [Array.getElem?_eq_getElem hi] using q
  obtain ⟨i0, ei0⟩ := is_v hi0
  obtain rfl : w0 = (.int i0) := Option.some.inj ei0
  obtain ⟨i1, ei1⟩ := is_v hi1
  obtain rfl : w1 = (.int i1) := Option.some.inj ei1
  obtain ⟨i2, ei2⟩ := isL_v hg2
  obtain rfl : w2 = (.long i2) := Option.some.inj ei2
  obtain ⟨hsets, -⟩ := atoms_of _ (rest_1_c_eq ▸ (show rest_1_c.before _ s = true from hrest))
  obtain ⟨cz, ecz⟩ := is_v (Cond.before_iff.mp (hsets _ (List.mem_of_getElem? (i := 1) rfl)))
  have hCS : Sta s s.heap "java/lang/String" "COMPACT_STRINGS" "Z" (.int cz) := Sta.start ecz (Or.inl (hsets _ (List.mem_of_getElem? (i := 0) rfl)))
  have hcz : ¬ (cz = (0 : Int32)) := gotF (Cond.eq_ints ecz (Term.int_eval (0))) (not_v (Cond.before_iff.mp (hsets _ (List.mem_of_getElem? (i := 2) rfl))))
  have hCH : CHv s consts_1 s.vm s.heap := CHv.start (own_EW hw) (fun p hp => hcalls.1 p hp) (hsets _ (List.mem_of_getElem? (i := 2) rfl)) (hw _ (List.mem_of_getElem? (i := 5) rfl)) (hw _ (List.mem_of_getElem? (i := 4) rfl))
  obtain ⟨n, o, h1, h2, h3, _, L, rfl, ⟨rfl, N⟩, -, hq⟩ := rm0 l s _ hw tables_1 i0 i1 i2 cz s.heap s.heap.size (Nat.le_refl _) (Old.start s) hCS hcz p e ha hc hk s m _ below hf ((Spec.applies_iff_loose hf).mp happ).1 ⟨rfl, State.Warmed39.refl s, rfl, hCH⟩ trivial
  refine ⟨n, _, h1, h2, h3, hpost _ _ _ _ _ _ ⟨Cond.after_iff.mpr rfl, Cond.after_iff.mpr (eq_i res_at (Term.int_eval (1)) rfl), trivial⟩ ⟨hq.1, hq.2.1, hq.2.2.1, (hq.2.2.2.sift fun y hy => Or.inr (N y hy)).mono (by decide) (by decide)⟩⟩
theorem main_1_1 : Claimed_1_1 := comes_1 fun _ _ _ _ _ _ h hF => ⟨h.1, hF⟩
theorem main_1_2 : Claimed_1_2 := comes_1 fun _ _ _ _ _ _ h hF => ⟨h.2.1, hF⟩
end Jvm.Pilot.@@N@@
namespace Jvm.Pilot.@@N@@
open Jvm Jvm.ClassFile Sem Op Lib Jvm.Free Jvm.Stand Jvm.Pilot.@@N@@.Jvm.D
/-! MADE BY PROGRAM (witnessworld.py) out of the Statement's table words and the real class files: 20 classes; the members and pool entries that the words name. The judged class is class 1, her method 1. -/
namespace start1
open Jvm.ClassFile
def u (s : String) : CpInfo := .utf8 (stringToUtf16 s)
/-- a pool by its gaps: so many unusable entries, then the entry; so many at the end -/
def gap : Nat → List CpInfo → List CpInfo
  | 0, r => r
  | n + 1, r => .unusable :: gap n r
def poolList (es : List (Nat × CpInfo)) (last : Nat) : List CpInfo := es.foldr (fun e r => gap e.1 (e.2 :: r)) (gap last [])
def pool (es : List (Nat × CpInfo)) (last : Nat) : Array CpInfo := ⟨poolList es last⟩
def fileOf (pool : Array CpInfo) (this : Nat) (attrs : Array Attribute := #[]) (ms : Array MethodInfo := #[]) (fl : Nat := 33) (sup : Nat := 0) (ifs : Array Nat := #[]) (fds : Array FieldInfo := #[]) : ClassFile where
  minorVersion := 0
  majorVersion := 65
  constantPool := pool
  accessFlags := fl
  thisClass := this
  superClass := sup
  interfaces := ifs
  fields := fds
  methods := ms
  attributes := attrs
def plain (name : String) (sup : Option ClassId) : Class where
  name := name
  kind := .ordinary
  loader := none
  accessFlags := 33
  super := sup
  interfaces := #[]
  cf := none
  fields := #[]
  methods := #[]
  instanceTypes := #[]
  staticTypes := #[]
  resolved := #[]
  callSites := []
  init := .initialized
  statics := none
  mirror := none

def pool0 : Array CpInfo := pool [(5, u "<init>"), (0, u "()V"), (1, .class_ 10), (1, u "java/lang/Object")] 113

def k0c0 : Code := { maxStack := 0, maxLocals := 1, code := object_method_1_code, exceptionTable := #[], attributes := #[] }
def k0m0 : Method := { name := "<init>", desc := "()V", sig := { parameters := [], returnType := none }, accessFlags := 1, code := some k0c0 }
/-- java/lang/Object -/
def k0 : Class := { plain "java/lang/Object" none with
  accessFlags := 33
  interfaces := #[]
  cf := some (fileOf pool0 8 #[] #[{ accessFlags := 1, nameIndex := 5, descriptorIndex := 6, attributes := #[] }] 33 0 #[] #[])
  fields := #[]
  methods := #[k0m0]
  instanceTypes := #[]
  staticTypes := #[]
  resolved := Array.replicate 124 none
  statics := none }

def pool1 : Array CpInfo := pool [(2, .class_ 4), (1, u "java/lang/Object"), (0, u "<init>"), (0, u "()V"), (0, .long 255), (1, .string 10), (0, u "1819"), (0, .string 12), (0, u "4337"), (0, .string 14), (0, u "6813"), (0, .string 16), (0, u "7052"), (0, .string 18), (0, u "18190"), (0, .string 20), (0, u "433"), (0, .string 22), (0, u ""), (0, .class_ 24), (0, u "java/lang/String"), (0, .methodref 23 26), (0, .nameAndType 5 27), (0, u "([C)V"), (0, .string 29), (0, u "316987"), (0, .string 31), (0, u "316992"), (0, .string 33), (0, u "3169870"), (0, .string 35), (0, u "31698"), (0, .methodref 37 38), (0, .class_ 39), (0, .nameAndType 40 41), (0, u "com/example/medspan/medspan/Opioids"), (0, u "isPatch"), (0, u "(Ljava/lang/String;Ljava/lang/String;)Z"), (0, .class_ 43), (0, u "com/example/medspan/medspan/OpioidsIsPatchPinLaw"), (2, u "law"), (0, u "(IIJ)Z")] 5

def k1m0 : Method := { name := "<init>", desc := "()V", sig := { parameters := [], returnType := none }, accessFlags := 1, code := none }
def k1c1 : Code := { maxStack := 6, maxLocals := 12, code := code, exceptionTable := #[], attributes := #[] }
def k1m1 : Method := { name := "law", desc := "(IIJ)Z", sig := { parameters := [.int, .int, .long], returnType := some .boolean }, accessFlags := 9, code := some k1c1 }
/-- com/example/medspan/medspan/OpioidsIsPatchPinLaw -/
def k1 : Class := { plain "com/example/medspan/medspan/OpioidsIsPatchPinLaw" (some 0) with
  accessFlags := 49
  interfaces := #[]
  cf := some (fileOf pool1 42 #[] #[{ accessFlags := 1, nameIndex := 5, descriptorIndex := 6, attributes := #[] }, { accessFlags := 9, nameIndex := 46, descriptorIndex := 47, attributes := #[] }] 49 2 #[] #[])
  fields := #[]
  methods := #[k1m0, k1m1]
  instanceTypes := #[]
  staticTypes := #[]
  resolved := Array.replicate 53 none
  statics := none }

def pool2 : Array CpInfo := pool [(1, .class_ 2), (0, u "java/io/Serializable"), (0, .class_ 4), (0, u "java/lang/Object")] 2

/-- java/io/Serializable -/
def k2 : Class := { plain "java/io/Serializable" (some 0) with
  accessFlags := 1537
  interfaces := #[]
  cf := some (fileOf pool2 1 #[] #[] 1537 3 #[] #[])
  fields := #[]
  methods := #[]
  instanceTypes := #[]
  staticTypes := #[]
  resolved := Array.replicate 7 none
  statics := none }

def pool3 : Array CpInfo := pool [(1, .class_ 2), (0, u "java/lang/Comparable"), (0, .class_ 4), (0, u "java/lang/Object")] 7

/-- java/lang/Comparable -/
def k3 : Class := { plain "java/lang/Comparable" (some 0) with
  accessFlags := 1537
  interfaces := #[]
  cf := some (fileOf pool3 1 #[] #[] 1537 3 #[] #[])
  fields := #[]
  methods := #[]
  instanceTypes := #[]
  staticTypes := #[]
  resolved := Array.replicate 12 none
  statics := none }

def pool4 : Array CpInfo := pool [(2, .class_ 4), (1, u "java/lang/CharSequence"), (42, .class_ 48), (0, u "java/lang/CharSequence$1CodePointIterator"), (10, .class_ 60), (0, u "java/lang/CharSequence$1CharIterator"), (5, .class_ 67), (0, u "java/lang/Object")] 63

/-- java/lang/CharSequence -/
def k4 : Class := { plain "java/lang/CharSequence" (some 0) with
  accessFlags := 1537
  interfaces := #[]
  cf := some (fileOf pool4 2 #[.nestMembers #[47, 59]] #[] 1537 66 #[] #[])
  fields := #[]
  methods := #[]
  instanceTypes := #[]
  staticTypes := #[]
  resolved := Array.replicate 131 none
  statics := none }

def pool5 : Array CpInfo := pool [(1, .class_ 2), (0, u "java/lang/constant/Constable"), (0, .class_ 4), (0, u "java/lang/Object")] 6

/-- java/lang/constant/Constable -/
def k5 : Class := { plain "java/lang/constant/Constable" (some 0) with
  accessFlags := 1537
  interfaces := #[]
  cf := some (fileOf pool5 1 #[] #[] 1537 3 #[] #[])
  fields := #[]
  methods := #[]
  instanceTypes := #[]
  staticTypes := #[]
  resolved := Array.replicate 11 none
  statics := none }

def pool6 : Array CpInfo := pool [(1, .class_ 2), (0, u "java/lang/constant/ConstantDesc"), (0, .class_ 4), (0, u "java/lang/Object")] 32

/-- java/lang/constant/ConstantDesc -/
def k6 : Class := { plain "java/lang/constant/ConstantDesc" (some 0) with
  accessFlags := 1537
  interfaces := #[]
  cf := some (fileOf pool6 1 #[] #[] 1537 3 #[] #[])
  fields := #[]
  methods := #[]
  instanceTypes := #[]
  staticTypes := #[]
  resolved := Array.replicate 37 none
  statics := none }

def pool7 : Array CpInfo := pool [(1, .methodref 2 3), (0, .class_ 4), (0, .nameAndType 5 6), (0, u "java/lang/Object"), (0, u "<init>"), (0, u "()V"), (2, .fieldref 10 11), (0, .class_ 12), (0, .nameAndType 13 14), (0, u "java/lang/String"), (0, u "value"), (0, u "[B"), (0, .fieldref 10 16), (0, .nameAndType 17 18), (0, u "coder"), (0, u "B"), (2, u "hash"), (0, u "I"), (2, u "hashIsZero"), (0, u "Z"), (0, .methodref 10 28), (0, .nameAndType 5 29), (0, u "([CIILjava/lang/Void;)V"), (8, .fieldref 10 39), (0, .nameAndType 40 26), (0, u "COMPACT_STRINGS"), (1, .class_ 44), (1, u "java/lang/StringUTF16"), (0, u "compress"), (1, .methodref 42 48), (0, .nameAndType 49 50), (0, u "coderFromArrayLen"), (0, u "([BI)B"), (56, .class_ 109), (1, u "java/lang/StringLatin1"), (67, .methodref 42 178), (0, .nameAndType 45 179), (0, u "([CII)[B"), (361, .methodref 107 542), (0, .nameAndType 543 544), (0, u "equals"), (0, u "([B[B)Z"), (28, u "(Ljava/lang/Object;)Z"), (1, .class_ 576), (0, u "java/lang/CharSequence"), (22, u "CASE_INSENSITIVE_ORDER"), (0, u "Ljava/util/Comparator;"), (409, u "([C)V"), (90, u "serialPersistentFields"), (0, u "[Ljava/io/ObjectStreamField;"), (0, .class_ 1104), (0, u "java/lang/String$CaseInsensitiveComparator"), (1, .class_ 1107), (0, u "java/io/Serializable"), (0, .class_ 1109), (0, u "java/lang/Comparable"), (0, .class_ 1111), (0, u "java/lang/constant/Constable"), (0, .class_ 1113), (0, u "java/lang/constant/ConstantDesc"), (2, u "serialVersionUID"), (0, u "J"), (3, u "REPL"), (0, u "C"), (2, u "LATIN1"), (1, u "UTF16")] 323

def k7m0 : Method := { name := "<init>", desc := "()V", sig := { parameters := [], returnType := none }, accessFlags := 1, code := none }
def k7c1 : Code := { maxStack := 5, maxLocals := 2, code := jdk_42_method_3_code, exceptionTable := #[], attributes := #[] }
def k7m1 : Method := { name := "<init>", desc := "([C)V", sig := { parameters := [(.array .char)], returnType := none }, accessFlags := 1, code := some k7c1 }
def k7c2 : Code := { maxStack := 2, maxLocals := 3, code := jdk_42_method_66_code, exceptionTable := #[], attributes := #[] }
def k7m2 : Method := { name := "equals", desc := "(Ljava/lang/Object;)Z", sig := { parameters := [(.object "java/lang/Object")], returnType := some .boolean }, accessFlags := 1, code := some k7c2 }
def k7c3 : Code := { maxStack := 4, maxLocals := 6, code := jdk_42_method_149_code, exceptionTable := #[], attributes := #[] }
def k7m3 : Method := { name := "<init>", desc := "([CIILjava/lang/Void;)V", sig := { parameters := [(.array .char), .int, .int, (.object "java/lang/Void")], returnType := none }, accessFlags := 2, code := some k7c3 }
/-- java/lang/String -/
def k7 : Class := { plain "java/lang/String" (some 0) with
  accessFlags := 49
  interfaces := #[2, 3, 4, 5, 6]
  cf := some (fileOf pool7 10 #[.nestMembers #[1103]] #[{ accessFlags := 1, nameIndex := 5, descriptorIndex := 6, attributes := #[] }, { accessFlags := 1, nameIndex := 5, descriptorIndex := 1010, attributes := #[] }, { accessFlags := 1, nameIndex := 543, descriptorIndex := 573, attributes := #[] }, { accessFlags := 2, nameIndex := 5, descriptorIndex := 29, attributes := #[] }] 49 2 #[1106, 1108, 575, 1110, 1112] #[{ accessFlags := 18, nameIndex := 13, descriptorIndex := 14, attributes := #[] }, { accessFlags := 18, nameIndex := 17, descriptorIndex := 18, attributes := #[] }, { accessFlags := 2, nameIndex := 21, descriptorIndex := 22, attributes := #[] }, { accessFlags := 2, nameIndex := 25, descriptorIndex := 26, attributes := #[] }, { accessFlags := 26, nameIndex := 1116, descriptorIndex := 1117, attributes := #[] }, { accessFlags := 24, nameIndex := 40, descriptorIndex := 26, attributes := #[] }, { accessFlags := 26, nameIndex := 1101, descriptorIndex := 1102, attributes := #[] }, { accessFlags := 26, nameIndex := 1121, descriptorIndex := 1122, attributes := #[] }, { accessFlags := 25, nameIndex := 599, descriptorIndex := 600, attributes := #[] }, { accessFlags := 24, nameIndex := 1125, descriptorIndex := 18, attributes := #[] }, { accessFlags := 24, nameIndex := 1127, descriptorIndex := 18, attributes := #[] }])
  fields := #[{ name := "value", type := (.array .byte), accessFlags := 18, slot := 0, constantValue := 0 }, { name := "coder", type := .byte, accessFlags := 18, slot := 1, constantValue := 0 }, { name := "hash", type := .int, accessFlags := 2, slot := 2, constantValue := 0 }, { name := "hashIsZero", type := .boolean, accessFlags := 2, slot := 3, constantValue := 0 }, { name := "serialVersionUID", type := .long, accessFlags := 26, slot := 0, constantValue := 0 }, { name := "COMPACT_STRINGS", type := .boolean, accessFlags := 24, slot := 1, constantValue := 0 }, { name := "serialPersistentFields", type := (.array (.object "java/io/ObjectStreamField")), accessFlags := 26, slot := 2, constantValue := 0 }, { name := "REPL", type := .char, accessFlags := 26, slot := 3, constantValue := 0 }, { name := "CASE_INSENSITIVE_ORDER", type := (.object "java/util/Comparator"), accessFlags := 25, slot := 4, constantValue := 0 }, { name := "LATIN1", type := .byte, accessFlags := 24, slot := 5, constantValue := 0 }, { name := "UTF16", type := .byte, accessFlags := 24, slot := 6, constantValue := 0 }]
  methods := #[k7m0, k7m1, k7m2, k7m3]
  instanceTypes := #[(.array .byte), .byte, .int, .boolean]
  staticTypes := #[.long, .boolean, (.array (.object "java/io/ObjectStreamField")), .char, (.object "java/util/Comparator"), .byte, .byte]
  resolved := Array.replicate 1451 none
  statics := some 0 }

def pool8 : Array CpInfo := pool [(2, .class_ 4), (1, u "java/lang/Object"), (0, u "<init>"), (0, u "()V"), (1, .class_ 10), (1, u "com/example/medspan/medspan/Opioids"), (0, u "SINGLE_FACTORS"), (0, u "Ljava/util/Map;"), (5, u "(Ljava/lang/Object;)Z"), (0, .string 20), (0, u "1819"), (0, .methodref 22 23), (0, .class_ 24), (0, .nameAndType 25 18), (0, u "java/lang/String"), (0, u "equals"), (0, .string 27), (0, u "4337"), (2, .string 31), (0, u "316987"), (2, u "isPatch"), (0, u "(Ljava/lang/String;Ljava/lang/String;)Z"), (14, u "BUPRENORPHINE_PATCH"), (0, u "Ljava/math/BigDecimal;"), (2, u "BUPRENORPHINE_OTHER"), (2, u "FENTANYL_FACTORS"), (19, u "METHADONE_BANDS"), (0, u "Ljava/util/List;"), (16, .class_ 96), (0, u "com/example/medspan/medspan/Opioids$MethadoneBand"), (115, u "BUPRENORPHINE"), (0, u "Ljava/lang/String;"), (1, u "FENTANYL"), (0, u "METHADONE"), (0, u "PATCH")] 20

def k8m0 : Method := { name := "<init>", desc := "()V", sig := { parameters := [], returnType := none }, accessFlags := 2, code := none }
def k8c1 : Code := { maxStack := 2, maxLocals := 2, code := prog_23_method_3_code, exceptionTable := #[], attributes := #[] }
def k8m1 : Method := { name := "isPatch", desc := "(Ljava/lang/String;Ljava/lang/String;)Z", sig := { parameters := [(.object "java/lang/String"), (.object "java/lang/String")], returnType := some .boolean }, accessFlags := 8, code := some k8c1 }
/-- com/example/medspan/medspan/Opioids -/
def k8 : Class := { plain "com/example/medspan/medspan/Opioids" (some 0) with
  accessFlags := 48
  interfaces := #[]
  cf := some (fileOf pool8 8 #[.nestMembers #[95]] #[{ accessFlags := 2, nameIndex := 5, descriptorIndex := 6, attributes := #[] }, { accessFlags := 8, nameIndex := 34, descriptorIndex := 35, attributes := #[] }] 48 2 #[] #[{ accessFlags := 26, nameIndex := 212, descriptorIndex := 213, attributes := #[] }, { accessFlags := 26, nameIndex := 215, descriptorIndex := 213, attributes := #[] }, { accessFlags := 26, nameIndex := 216, descriptorIndex := 213, attributes := #[] }, { accessFlags := 26, nameIndex := 217, descriptorIndex := 213, attributes := #[] }, { accessFlags := 26, nameIndex := 11, descriptorIndex := 12, attributes := #[] }, { accessFlags := 26, nameIndex := 50, descriptorIndex := 51, attributes := #[] }, { accessFlags := 26, nameIndex := 54, descriptorIndex := 51, attributes := #[] }, { accessFlags := 26, nameIndex := 57, descriptorIndex := 12, attributes := #[] }, { accessFlags := 26, nameIndex := 77, descriptorIndex := 78, attributes := #[] }])
  fields := #[{ name := "BUPRENORPHINE", type := (.object "java/lang/String"), accessFlags := 26, slot := 0, constantValue := 0 }, { name := "FENTANYL", type := (.object "java/lang/String"), accessFlags := 26, slot := 1, constantValue := 0 }, { name := "METHADONE", type := (.object "java/lang/String"), accessFlags := 26, slot := 2, constantValue := 0 }, { name := "PATCH", type := (.object "java/lang/String"), accessFlags := 26, slot := 3, constantValue := 0 }, { name := "SINGLE_FACTORS", type := (.object "java/util/Map"), accessFlags := 26, slot := 4, constantValue := 0 }, { name := "BUPRENORPHINE_PATCH", type := (.object "java/math/BigDecimal"), accessFlags := 26, slot := 5, constantValue := 0 }, { name := "BUPRENORPHINE_OTHER", type := (.object "java/math/BigDecimal"), accessFlags := 26, slot := 6, constantValue := 0 }, { name := "FENTANYL_FACTORS", type := (.object "java/util/Map"), accessFlags := 26, slot := 7, constantValue := 0 }, { name := "METHADONE_BANDS", type := (.object "java/util/List"), accessFlags := 26, slot := 8, constantValue := 0 }]
  methods := #[k8m0, k8m1]
  instanceTypes := #[]
  staticTypes := #[(.object "java/lang/String"), (.object "java/lang/String"), (.object "java/lang/String"), (.object "java/lang/String"), (.object "java/util/Map"), (.object "java/math/BigDecimal"), (.object "java/math/BigDecimal"), (.object "java/util/Map"), (.object "java/util/List")]
  resolved := Array.replicate 238 none
  statics := none }

def pool9 : Array CpInfo := pool [(6, .class_ 8), (1, u "java/lang/Object"), (0, u "<init>"), (0, u "()V"), (1, .class_ 14), (1, u "java/lang/StringUTF16"), (31, u "$assertionsDisabled"), (0, u "Z"), (13, u "HI_BYTE_SHIFT"), (0, u "I"), (2, u "LO_BYTE_SHIFT"), (49, .methodref 12 116), (0, .nameAndType 117 118), (0, u "compress"), (0, u "([CI[BII)I"), (3, u "([CII)[B"), (138, u "coderFromArrayLen"), (0, u "([BI)B"), (106, .class_ 371), (1, u "java/lang/StringUTF16$LinesSpliterator"), (58, u "MAX_LENGTH"), (196, .class_ 628), (0, u "java/lang/StringUTF16$CodePointsSpliterator"), (0, .class_ 630), (0, u "java/lang/StringUTF16$CharsSpliterator")] 4

def k9m0 : Method := { name := "<init>", desc := "()V", sig := { parameters := [], returnType := none }, accessFlags := 0, code := none }
def k9c1 : Code := { maxStack := 2, maxLocals := 2, code := jdk_52_method_15_code, exceptionTable := #[], attributes := #[] }
def k9m1 : Method := { name := "coderFromArrayLen", desc := "([BI)B", sig := { parameters := [(.array .byte), .int], returnType := some .byte }, accessFlags := 8, code := some k9c1 }
def k9c2 : Code := { maxStack := 5, maxLocals := 6, code := jdk_52_method_16_code, exceptionTable := #[], attributes := #[] }
def k9m2 : Method := { name := "compress", desc := "([CII)[B", sig := { parameters := [(.array .char), .int, .int], returnType := some (.array .byte) }, accessFlags := 9, code := some k9c2 }
def k9c3 : Code := { maxStack := 3, maxLocals := 7, code := jdk_52_method_21_code, exceptionTable := #[], attributes := #[] }
def k9m3 : Method := { name := "compress", desc := "([CI[BII)I", sig := { parameters := [(.array .char), .int, (.array .byte), .int, .int], returnType := some .int }, accessFlags := 9, code := some k9c3 }
/-- java/lang/StringUTF16 -/
def k9 : Class := { plain "java/lang/StringUTF16" (some 0) with
  accessFlags := 48
  interfaces := #[]
  cf := some (fileOf pool9 12 #[.nestMembers #[627, 629, 369]] #[{ accessFlags := 0, nameIndex := 9, descriptorIndex := 10, attributes := #[] }, { accessFlags := 8, nameIndex := 261, descriptorIndex := 262, attributes := #[] }, { accessFlags := 9, nameIndex := 117, descriptorIndex := 122, attributes := #[] }, { accessFlags := 9, nameIndex := 117, descriptorIndex := 118, attributes := #[] }] 48 6 #[] #[{ accessFlags := 26, nameIndex := 61, descriptorIndex := 62, attributes := #[] }, { accessFlags := 26, nameIndex := 65, descriptorIndex := 62, attributes := #[] }, { accessFlags := 24, nameIndex := 430, descriptorIndex := 62, attributes := #[] }, { accessFlags := 4120, nameIndex := 46, descriptorIndex := 47, attributes := #[] }])
  fields := #[{ name := "HI_BYTE_SHIFT", type := .int, accessFlags := 26, slot := 0, constantValue := 0 }, { name := "LO_BYTE_SHIFT", type := .int, accessFlags := 26, slot := 1, constantValue := 0 }, { name := "MAX_LENGTH", type := .int, accessFlags := 24, slot := 2, constantValue := 0 }, { name := "$assertionsDisabled", type := .boolean, accessFlags := 4120, slot := 3, constantValue := 0 }]
  methods := #[k9m0, k9m1, k9m2, k9m3]
  instanceTypes := #[]
  staticTypes := #[.int, .int, .int, .boolean]
  resolved := Array.replicate 635 none
  statics := none }

def pool10 : Array CpInfo := pool [(4, .class_ 6), (1, u "java/lang/Object"), (0, u "<init>"), (0, u "()V"), (5, .class_ 16), (1, u "java/lang/StringLatin1"), (104, u "$assertionsDisabled"), (0, u "Z"), (98, .class_ 223), (1, u "java/lang/StringLatin1$LinesSpliterator"), (57, u "equals"), (0, u "([B[B)Z"), (107, .class_ 391), (0, u "java/lang/StringLatin1$CharsSpliterator")] 3

def k10m0 : Method := { name := "<init>", desc := "()V", sig := { parameters := [], returnType := none }, accessFlags := 0, code := none }
def k10c1 : Code := { maxStack := 3, maxLocals := 3, code := jdk_43_method_13_code, exceptionTable := #[], attributes := #[] }
def k10m1 : Method := { name := "equals", desc := "([B[B)Z", sig := { parameters := [(.array .byte), (.array .byte)], returnType := some .boolean }, accessFlags := 9, code := some k10c1 }
/-- java/lang/StringLatin1 -/
def k10 : Class := { plain "java/lang/StringLatin1" (some 0) with
  accessFlags := 48
  interfaces := #[]
  cf := some (fileOf pool10 14 #[.nestMembers #[390, 221]] #[{ accessFlags := 0, nameIndex := 7, descriptorIndex := 8, attributes := #[] }, { accessFlags := 9, nameIndex := 281, descriptorIndex := 282, attributes := #[] }] 48 4 #[] #[{ accessFlags := 4120, nameIndex := 121, descriptorIndex := 122, attributes := #[] }])
  fields := #[{ name := "$assertionsDisabled", type := .boolean, accessFlags := 4120, slot := 0, constantValue := 0 }]
  methods := #[k10m0, k10m1]
  instanceTypes := #[]
  staticTypes := #[.boolean]
  resolved := Array.replicate 395 none
  statics := none }

def pool11 : Array CpInfo := pool [(2, .class_ 4), (1, u "java/lang/Object"), (0, u "<init>"), (0, u "()V"), (17, .class_ 26), (1, u "jdk/internal/util/Preconditions"), (28, .class_ 56), (0, u "jdk/internal/util/Preconditions$4"), (57, .class_ 115), (0, u "jdk/internal/util/Preconditions$1"), (7, u "SIOOBE_FORMATTER"), (0, u "Ljava/util/function/BiFunction;"), (0, .class_ 126), (0, u "jdk/internal/util/Preconditions$2"), (3, u "AIOOBE_FORMATTER"), (0, .class_ 132), (0, u "jdk/internal/util/Preconditions$3"), (3, u "IOOBE_FORMATTER")] 57

def k11m0 : Method := { name := "<init>", desc := "()V", sig := { parameters := [], returnType := none }, accessFlags := 1, code := none }
/-- jdk/internal/util/Preconditions -/
def k11 : Class := { plain "jdk/internal/util/Preconditions" (some 0) with
  accessFlags := 33
  interfaces := #[]
  cf := some (fileOf pool11 24 #[.nestMembers #[55, 131, 125, 114]] #[{ accessFlags := 1, nameIndex := 5, descriptorIndex := 6, attributes := #[] }] 33 2 #[] #[{ accessFlags := 25, nameIndex := 123, descriptorIndex := 124, attributes := #[] }, { accessFlags := 25, nameIndex := 130, descriptorIndex := 124, attributes := #[] }, { accessFlags := 25, nameIndex := 136, descriptorIndex := 124, attributes := #[] }])
  fields := #[{ name := "SIOOBE_FORMATTER", type := (.object "java/util/function/BiFunction"), accessFlags := 25, slot := 0, constantValue := 0 }, { name := "AIOOBE_FORMATTER", type := (.object "java/util/function/BiFunction"), accessFlags := 25, slot := 1, constantValue := 0 }, { name := "IOOBE_FORMATTER", type := (.object "java/util/function/BiFunction"), accessFlags := 25, slot := 2, constantValue := 0 }]
  methods := #[k11m0]
  instanceTypes := #[]
  staticTypes := #[(.object "java/util/function/BiFunction"), (.object "java/util/function/BiFunction"), (.object "java/util/function/BiFunction")]
  resolved := Array.replicate 194 none
  statics := some 1 }

def pool12 : Array CpInfo := pool [(9, u "<init>"), (6, .class_ 18), (1, u "java/lang/Object"), (0, u "()V"), (1, .class_ 23), (1, u "jdk/internal/util/ArraysSupport"), (0, u "LOG2_ARRAY_LONG_INDEX_SCALE"), (0, u "I"), (2, u "U"), (0, u "Ljdk/internal/misc/Unsafe;"), (8, u "BIG_ENDIAN"), (0, u "Z"), (8, u "LOG2_BYTE_BIT_SIZE"), (4, u "LOG2_ARRAY_INT_INDEX_SCALE"), (54, u "JLA"), (0, u "Ljdk/internal/access/JavaLangAccess;"), (11, u "LOG2_ARRAY_BOOLEAN_INDEX_SCALE"), (9, u "LOG2_ARRAY_BYTE_INDEX_SCALE"), (5, u "LOG2_ARRAY_CHAR_INDEX_SCALE"), (5, u "LOG2_ARRAY_SHORT_INDEX_SCALE"), (18, u "LOG2_ARRAY_FLOAT_INDEX_SCALE"), (24, u "LOG2_ARRAY_DOUBLE_INDEX_SCALE"), (89, u "T_BOOLEAN"), (2, u "T_CHAR"), (1, u "T_FLOAT"), (1, u "T_DOUBLE"), (1, u "T_BYTE"), (1, u "T_SHORT"), (1, u "T_INT"), (1, u "T_LONG"), (1, u "SOFT_MAX_ARRAY_LENGTH")] 83

def k12m0 : Method := { name := "<init>", desc := "()V", sig := { parameters := [], returnType := none }, accessFlags := 2, code := none }
/-- jdk/internal/util/ArraysSupport -/
def k12 : Class := { plain "jdk/internal/util/ArraysSupport" (some 0) with
  accessFlags := 33
  interfaces := #[]
  cf := some (fileOf pool12 21 #[] #[{ accessFlags := 2, nameIndex := 9, descriptorIndex := 19, attributes := #[] }] 33 16 #[] #[{ accessFlags := 24, nameIndex := 28, descriptorIndex := 29, attributes := #[] }, { accessFlags := 26, nameIndex := 38, descriptorIndex := 39, attributes := #[] }, { accessFlags := 25, nameIndex := 121, descriptorIndex := 25, attributes := #[] }, { accessFlags := 25, nameIndex := 131, descriptorIndex := 25, attributes := #[] }, { accessFlags := 25, nameIndex := 137, descriptorIndex := 25, attributes := #[] }, { accessFlags := 25, nameIndex := 143, descriptorIndex := 25, attributes := #[] }, { accessFlags := 25, nameIndex := 53, descriptorIndex := 25, attributes := #[] }, { accessFlags := 25, nameIndex := 24, descriptorIndex := 25, attributes := #[] }, { accessFlags := 25, nameIndex := 162, descriptorIndex := 25, attributes := #[] }, { accessFlags := 25, nameIndex := 187, descriptorIndex := 25, attributes := #[] }, { accessFlags := 26, nameIndex := 48, descriptorIndex := 25, attributes := #[] }, { accessFlags := 25, nameIndex := 277, descriptorIndex := 25, attributes := #[] }, { accessFlags := 25, nameIndex := 280, descriptorIndex := 25, attributes := #[] }, { accessFlags := 25, nameIndex := 282, descriptorIndex := 25, attributes := #[] }, { accessFlags := 25, nameIndex := 284, descriptorIndex := 25, attributes := #[] }, { accessFlags := 25, nameIndex := 286, descriptorIndex := 25, attributes := #[] }, { accessFlags := 25, nameIndex := 288, descriptorIndex := 25, attributes := #[] }, { accessFlags := 25, nameIndex := 290, descriptorIndex := 25, attributes := #[] }, { accessFlags := 25, nameIndex := 292, descriptorIndex := 25, attributes := #[] }, { accessFlags := 26, nameIndex := 108, descriptorIndex := 109, attributes := #[] }, { accessFlags := 25, nameIndex := 294, descriptorIndex := 25, attributes := #[] }])
  fields := #[{ name := "U", type := (.object "jdk/internal/misc/Unsafe"), accessFlags := 24, slot := 0, constantValue := 0 }, { name := "BIG_ENDIAN", type := .boolean, accessFlags := 26, slot := 1, constantValue := 0 }, { name := "LOG2_ARRAY_BOOLEAN_INDEX_SCALE", type := .int, accessFlags := 25, slot := 2, constantValue := 0 }, { name := "LOG2_ARRAY_BYTE_INDEX_SCALE", type := .int, accessFlags := 25, slot := 3, constantValue := 0 }, { name := "LOG2_ARRAY_CHAR_INDEX_SCALE", type := .int, accessFlags := 25, slot := 4, constantValue := 0 }, { name := "LOG2_ARRAY_SHORT_INDEX_SCALE", type := .int, accessFlags := 25, slot := 5, constantValue := 0 }, { name := "LOG2_ARRAY_INT_INDEX_SCALE", type := .int, accessFlags := 25, slot := 6, constantValue := 0 }, { name := "LOG2_ARRAY_LONG_INDEX_SCALE", type := .int, accessFlags := 25, slot := 7, constantValue := 0 }, { name := "LOG2_ARRAY_FLOAT_INDEX_SCALE", type := .int, accessFlags := 25, slot := 8, constantValue := 0 }, { name := "LOG2_ARRAY_DOUBLE_INDEX_SCALE", type := .int, accessFlags := 25, slot := 9, constantValue := 0 }, { name := "LOG2_BYTE_BIT_SIZE", type := .int, accessFlags := 26, slot := 10, constantValue := 0 }, { name := "T_BOOLEAN", type := .int, accessFlags := 25, slot := 11, constantValue := 0 }, { name := "T_CHAR", type := .int, accessFlags := 25, slot := 12, constantValue := 0 }, { name := "T_FLOAT", type := .int, accessFlags := 25, slot := 13, constantValue := 0 }, { name := "T_DOUBLE", type := .int, accessFlags := 25, slot := 14, constantValue := 0 }, { name := "T_BYTE", type := .int, accessFlags := 25, slot := 15, constantValue := 0 }, { name := "T_SHORT", type := .int, accessFlags := 25, slot := 16, constantValue := 0 }, { name := "T_INT", type := .int, accessFlags := 25, slot := 17, constantValue := 0 }, { name := "T_LONG", type := .int, accessFlags := 25, slot := 18, constantValue := 0 }, { name := "JLA", type := (.object "jdk/internal/access/JavaLangAccess"), accessFlags := 26, slot := 19, constantValue := 0 }, { name := "SOFT_MAX_ARRAY_LENGTH", type := .int, accessFlags := 25, slot := 20, constantValue := 0 }]
  methods := #[k12m0]
  instanceTypes := #[]
  staticTypes := #[(.object "jdk/internal/misc/Unsafe"), .boolean, .int, .int, .int, .int, .int, .int, .int, .int, .int, .int, .int, .int, .int, .int, .int, .int, .int, (.object "jdk/internal/access/JavaLangAccess"), .int]
  resolved := Array.replicate 378 none
  statics := none }

def pool13 : Array CpInfo := pool [(1, u "java/lang/Cloneable"), (0, .class_ 1), (0, u "java/lang/Object"), (0, .class_ 3)] 3

/-- java/lang/Cloneable -/
def k13 : Class := { plain "java/lang/Cloneable" (some 0) with
  accessFlags := 1537
  interfaces := #[]
  cf := some (fileOf pool13 2 #[] #[] 1537 4 #[] #[])
  fields := #[]
  methods := #[]
  instanceTypes := #[]
  staticTypes := #[]
  resolved := Array.replicate 8 none
  statics := none }

/-- the primitive byte -/
def k14 : Class := { plain "byte" none with kind := .primitive 'B', accessFlags := 0x411 }
/-- [B -/
def k15 : Class := { plain "[B" (some 0) with kind := .array 14 .byte, interfaces := #[13, 2], accessFlags := 1041 }

/-- the primitive char -/
def k16 : Class := { plain "char" none with kind := .primitive 'C', accessFlags := 0x411 }
/-- [C -/
def k17 : Class := { plain "[C" (some 0) with kind := .array 16 .char, interfaces := #[13, 2], accessFlags := 1041 }

/-- the primitive int -/
def k18 : Class := { plain "int" none with kind := .primitive 'I', accessFlags := 0x411 }
/-- [I -/
def k19 : Class := { plain "[I" (some 0) with kind := .array 18 .int, interfaces := #[13, 2], accessFlags := 1041 }

def heap : Heap := #[{ cls := 7, slots := #[.long 0, .int 1, .null, .int 0, .null, .int 0, .int 0], vm := .statics 7 },
  { cls := 11, slots := #[.null, .null, .null], vm := .statics 11 }]
def classes : Array Class := #[k0, k1, k2, k3, k4, k5, k6, k7, k8, k9, k10, k11, k12, k13, k14, k15, k16, k17, k18, k19]
def interned : List (Array UInt16 × Addr) := []
def slotsUsed : Nat := 10
def theMethod : MethodId := ⟨1, 1⟩
def args0 : Array Value := #[.int 5, .int 6, .long 7]
def aboutOver (below : List Frame) : State where
  vm := { classes := classes, interned := interned.toArray }
  heap := heap
  slotsUsed := slotsUsed
  threads := #[{ frames := .invoking theMethod args0 :: below }]
def below0 : List Frame := [.native { method := ⟨0, 0⟩, args := #[] }]
def about1 : State := aboutOver below0
def p0 : Program := .bare "" "" ""
def e0 : Env := launch0.env 0 0 0
theorem w_frames : about1.frames = Frame.invoking theMethod args0 :: below0 := rfl
set_option maxRecDepth 65536 in
theorem w_args : argsFit about1.vm theMethod args0 = true := by decide +kernel
set_option maxRecDepth 65536 in
theorem w_heap : heapFits about1 = true := by decide +kernel
set_option maxRecDepth 65536 in
theorem w_runnable : about1.curStatus? = some .runnable := by decide +kernel
set_option maxRecDepth 65536 in
theorem w_alone : about1.alone = true := by decide +kernel
set_option maxRecDepth 65536 in
theorem w_named : about1.methodNamed? x = some theMethod := by decide +kernel
set_option maxRecDepth 65536 in
theorem w_hears : about1.hears theMethod below0 = true := by decide +kernel
set_option maxRecDepth 65536 in
theorem w_ripe : about1.ripe theMethod args0 below0 = true := by decide +kernel
theorem w_running : about1.status = .running := rfl
set_option maxRecDepth 65536 in
theorem w_room : about1.hasRoom e0.platform room_1 = true :=
  launch0.hasRoom_least _ room_1 (by decide +kernel) (by decide +kernel) (by decide +kernel) (by decide +kernel) (by decide +kernel) (by decide +kernel)
theorem allAtoms_all (ts : List Jvm.Cond) (a : Array Jvm.Value) (st : Jvm.State) : (allAtoms ts).before a st = ts.all (fun c => c.before a st) := by
  induction ts with
  | nil => rfl
  | cons c t ih =>
    show (Jvm.Cond.and c (allAtoms t)).before a st = _
    rw [Jvm.Cond.before_and, ih, List.all_cons]
def words1 : List Jvm.Cond := Jvm.Cond.code x code maxLocals ret :: tables_1
/-- a 'code' word, met by the world's own term for the bytes: nothing is compared byte by byte -/
theorem code_word {y : MethodName} {bytes : ByteArray} {mx : Nat} {rt : Option FieldType} {a : Array Value} {s : State} {m : MethodId} {meth : Method} {c : Code} (h1 : s.methodNamed? y = some m) (h2 : s.vm.method? m = some meth) (h3 : meth.code = some c) (h4 : c.code = bytes)
    (h5 : (c.maxLocals == mx && c.exceptionTable.isEmpty && decide (c.maxStack ≤ mostOperands) && decide (meth.sig.returnType = rt) && !meth.locks && decide (parseMethodDescriptor y.desc = some meth.sig)) = true) : (Jvm.Cond.code y bytes mx rt).before a s = true := by
  simp only [Bool.and_eq_true, beq_iff_eq, Bool.not_eq_true', decide_eq_true_eq] at h5
  obtain ⟨⟨⟨⟨⟨g1, g2⟩, g3⟩, g4⟩, g5⟩, g6⟩ := h5
  simp [Cond.before, Cond.holds, Cond.value, h1, h2, h3, h4, g1, g2, g3, g4, g5, g6]
def isCode : Jvm.Cond → Bool
  | .code _ _ _ _ => true
  | _ => false
theorem all_split {L : List Jvm.Cond} {P : Jvm.Cond → Bool} (h1 : L.all (fun c => isCode c || P c) = true) (h2 : ∀ c ∈ L.filter isCode, P c = true) : L.all P = true := by
  refine List.all_eq_true.mpr fun c hc => ?_
  have h := List.all_eq_true.mp h1 c hc
  rcases Bool.eq_false_or_eq_true (isCode c) with hi | hi
  · exact h2 c (List.mem_filter.mpr ⟨hc, hi⟩)
  · simpa [hi] using h
set_option maxRecDepth 65536 in
theorem w_c0 : (Jvm.Cond.code x code maxLocals ret).before args0 about1 = true := code_word (m := ⟨1, 1⟩) (meth := k1m1) (c := k1c1) (by decide +kernel) rfl rfl rfl (by decide +kernel)
set_option maxRecDepth 65536 in
theorem w_c1 : (Jvm.Cond.code ({ cls := "com/example/medspan/medspan/Opioids", name := "isPatch", desc := "(Ljava/lang/String;Ljava/lang/String;)Z" } : Jvm.MethodName) prog_23_method_3_code (2 : Nat) (Option.some Jvm.ClassFile.FieldType.boolean)).before args0 about1 = true := code_word (m := ⟨8, 1⟩) (meth := k8m1) (c := k8c1) (by decide +kernel) rfl rfl rfl (by decide +kernel)
set_option maxRecDepth 65536 in
theorem w_c2 : (Jvm.Cond.code ({ cls := "java/lang/String", name := "equals", desc := "(Ljava/lang/Object;)Z" } : Jvm.MethodName) jdk_42_method_66_code (3 : Nat) (Option.some Jvm.ClassFile.FieldType.boolean)).before args0 about1 = true := code_word (m := ⟨7, 2⟩) (meth := k7m2) (c := k7c2) (by decide +kernel) rfl rfl rfl (by decide +kernel)
set_option maxRecDepth 65536 in
theorem w_c3 : (Jvm.Cond.code ({ cls := "java/lang/String", name := "<init>", desc := "([C)V" } : Jvm.MethodName) jdk_42_method_3_code (2 : Nat) (Option.none : Option Jvm.ClassFile.FieldType)).before args0 about1 = true := code_word (m := ⟨7, 1⟩) (meth := k7m1) (c := k7c1) (by decide +kernel) rfl rfl rfl (by decide +kernel)
set_option maxRecDepth 65536 in
theorem w_c4 : (Jvm.Cond.code ({ cls := "java/lang/String", name := "<init>", desc := "([CIILjava/lang/Void;)V" } : Jvm.MethodName) jdk_42_method_149_code (6 : Nat) (Option.none : Option Jvm.ClassFile.FieldType)).before args0 about1 = true := code_word (m := ⟨7, 3⟩) (meth := k7m3) (c := k7c3) (by decide +kernel) rfl rfl rfl (by decide +kernel)
set_option maxRecDepth 65536 in
theorem w_c5 : (Jvm.Cond.code ({ cls := "java/lang/Object", name := "<init>", desc := "()V" } : Jvm.MethodName) object_method_1_code (1 : Nat) (Option.none : Option Jvm.ClassFile.FieldType)).before args0 about1 = true := code_word (m := ⟨0, 0⟩) (meth := k0m0) (c := k0c0) (by decide +kernel) rfl rfl rfl (by decide +kernel)
set_option maxRecDepth 65536 in
theorem w_c6 : (Jvm.Cond.code ({ cls := "java/lang/StringUTF16", name := "compress", desc := "([CII)[B" } : Jvm.MethodName) jdk_52_method_16_code (6 : Nat) (Option.some (Jvm.ClassFile.FieldType.array Jvm.ClassFile.FieldType.byte))).before args0 about1 = true := code_word (m := ⟨9, 2⟩) (meth := k9m2) (c := k9c2) (by decide +kernel) rfl rfl rfl (by decide +kernel)
set_option maxRecDepth 65536 in
theorem w_c7 : (Jvm.Cond.code ({ cls := "java/lang/StringUTF16", name := "compress", desc := "([CI[BII)I" } : Jvm.MethodName) jdk_52_method_21_code (7 : Nat) (Option.some Jvm.ClassFile.FieldType.int)).before args0 about1 = true := code_word (m := ⟨9, 3⟩) (meth := k9m3) (c := k9c3) (by decide +kernel) rfl rfl rfl (by decide +kernel)
set_option maxRecDepth 65536 in
theorem w_c8 : (Jvm.Cond.code ({ cls := "java/lang/StringUTF16", name := "coderFromArrayLen", desc := "([BI)B" } : Jvm.MethodName) jdk_52_method_15_code (2 : Nat) (Option.some Jvm.ClassFile.FieldType.byte)).before args0 about1 = true := code_word (m := ⟨9, 1⟩) (meth := k9m1) (c := k9c1) (by decide +kernel) rfl rfl rfl (by decide +kernel)
set_option maxRecDepth 65536 in
theorem w_c9 : (Jvm.Cond.code ({ cls := "java/lang/StringLatin1", name := "equals", desc := "([B[B)Z" } : Jvm.MethodName) jdk_43_method_13_code (3 : Nat) (Option.some Jvm.ClassFile.FieldType.boolean)).before args0 about1 = true := code_word (m := ⟨10, 1⟩) (meth := k10m1) (c := k10c1) (by decide +kernel) rfl rfl rfl (by decide +kernel)
def codes1 : List Jvm.Cond := [Jvm.Cond.code x code maxLocals ret, Jvm.Cond.code ({ cls := "com/example/medspan/medspan/Opioids", name := "isPatch", desc := "(Ljava/lang/String;Ljava/lang/String;)Z" } : Jvm.MethodName) prog_23_method_3_code (2 : Nat) (Option.some Jvm.ClassFile.FieldType.boolean), Jvm.Cond.code ({ cls := "java/lang/String", name := "equals", desc := "(Ljava/lang/Object;)Z" } : Jvm.MethodName) jdk_42_method_66_code (3 : Nat) (Option.some Jvm.ClassFile.FieldType.boolean), Jvm.Cond.code ({ cls := "java/lang/String", name := "<init>", desc := "([C)V" } : Jvm.MethodName) jdk_42_method_3_code (2 : Nat) (Option.none : Option Jvm.ClassFile.FieldType), Jvm.Cond.code ({ cls := "java/lang/String", name := "<init>", desc := "([CIILjava/lang/Void;)V" } : Jvm.MethodName) jdk_42_method_149_code (6 : Nat) (Option.none : Option Jvm.ClassFile.FieldType), Jvm.Cond.code ({ cls := "java/lang/Object", name := "<init>", desc := "()V" } : Jvm.MethodName) object_method_1_code (1 : Nat) (Option.none : Option Jvm.ClassFile.FieldType), Jvm.Cond.code ({ cls := "java/lang/StringUTF16", name := "compress", desc := "([CII)[B" } : Jvm.MethodName) jdk_52_method_16_code (6 : Nat) (Option.some (Jvm.ClassFile.FieldType.array Jvm.ClassFile.FieldType.byte)), Jvm.Cond.code ({ cls := "java/lang/StringUTF16", name := "compress", desc := "([CI[BII)I" } : Jvm.MethodName) jdk_52_method_21_code (7 : Nat) (Option.some Jvm.ClassFile.FieldType.int), Jvm.Cond.code ({ cls := "java/lang/StringUTF16", name := "coderFromArrayLen", desc := "([BI)B" } : Jvm.MethodName) jdk_52_method_15_code (2 : Nat) (Option.some Jvm.ClassFile.FieldType.byte), Jvm.Cond.code ({ cls := "java/lang/StringLatin1", name := "equals", desc := "([B[B)Z" } : Jvm.MethodName) jdk_43_method_13_code (3 : Nat) (Option.some Jvm.ClassFile.FieldType.boolean)]
set_option maxRecDepth 65536 in
theorem codes_eq : words1.filter isCode = codes1 := rfl
theorem w_codes : ∀ c ∈ words1.filter isCode, c.before args0 about1 = true := by
  rw [codes_eq]
  intro c hc
  simp only [codes1, List.mem_cons, List.not_mem_nil, or_false] at hc
  rcases hc with rfl | rfl | rfl | rfl | rfl | rfl | rfl | rfl | rfl | rfl
  · exact w_c0
  · exact w_c1
  · exact w_c2
  · exact w_c3
  · exact w_c4
  · exact w_c5
  · exact w_c6
  · exact w_c7
  · exact w_c8
  · exact w_c9
set_option maxRecDepth 65536 in
theorem w_t1 : (words1.take 24).all (fun c => isCode c || c.before args0 about1) = true := by decide +kernel
set_option maxRecDepth 65536 in
theorem w_t2 : ((words1.drop 24).take 24).all (fun c => isCode c || c.before args0 about1) = true := by decide +kernel
set_option maxRecDepth 65536 in
theorem w_t3 : ((words1.drop 24).drop 24).all (fun c => isCode c || c.before args0 about1) = true := by decide +kernel
theorem w_tables : (allAtoms (Jvm.Cond.code x code maxLocals ret :: tables_1)).before args0 about1 = true := by
  rw [allAtoms_all]
  show words1.all (fun c => c.before args0 about1) = true
  refine all_split ?_ w_codes
  rw [← List.take_append_drop 24 words1, List.all_append, w_t1, ← List.take_append_drop 24 (words1.drop 24), List.all_append, w_t2, w_t3]
  rfl
set_option maxRecDepth 65536 in
theorem w_rest : rest_1_c.before args0 about1 = true := by decide +kernel
set_option maxRecDepth 65536 in
theorem w_case : (Jvm.Cond.and given_1 narrow_1).before args0 about1 = true := by decide +kernel
set_option maxRecDepth 65536 in
theorem w_consts : constsHeld consts_1 about1 := Jvm.Lit.constsHeldB_iff.mp (by decide +kernel)
theorem w_applies : (headSpec (Jvm.Cond.code x code maxLocals ret :: tables_1) room_1).applies x e0.platform about1 = true :=
  (Spec.applies_iff w_frames).mpr ⟨w_running, w_runnable, w_alone, w_named, w_hears, w_ripe, w_room, w_tables⟩
theorem atStart : AtStart classFile x code maxLocals ret World_1 tables_1 room_1 Calls_1 rest_1 Pre_1 launch0 p0 e0 about1 theMethod args0 below0 :=
  ⟨lists_1, trivial, launch0.admits_env _ _ _, launch0.least_env, fairChoices_fair.cas, fairChoices_fair.clock, w_frames, w_args, w_heap, w_applies, ⟨w_consts, trivial⟩, w_rest, w_case⟩
end start1
theorem witness_1 : WitnessClaimed_1 := ⟨start1.p0, start1.e0, start1.about1, start1.theMethod, start1.args0, start1.below0, start1.atStart⟩
end Jvm.Pilot.@@N@@
