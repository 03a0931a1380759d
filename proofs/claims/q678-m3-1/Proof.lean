import JvmDerived
import JvmDerived.Pilot.@@N@@Statement
import JvmDerived.Pilot.@@N@@Code
set_option linter.unusedVariables false
set_option linter.unusedSimpArgs false
/- laws to paste: Road.backV, Road.codOf, pair_says, shr0, chr8_lo8 (cut by pick.py; bodies as the Statement names them) -/
namespace Jvm.Pilot.@@N@@
namespace StrChars
open Jvm Sem ClassFile Op Lib Jvm.Stand Jvm.Free.XT Jvm.Free.ALB Jvm.Free.JM Jvm.Free
open Jvm.Lib.Cold (StaticIs)
/-- a char array whose places are chars -/
def Ch (a : Addr) (A : Cell) (U : State) : Prop := Arr .char a A U ∧ Typed .char A
theorem Ch.mv {a : Addr} {A : Cell} {U U' : State} (h : Ch a A U) (hal : U.vm.Alike U'.vm) (hh : U'.heap = U.heap) : Ch a A U' := ⟨h.1.mv hal hh, h.2⟩
theorem Ch.keep {a : Addr} {A : Cell} {U U' : State} (h : Ch a A U) (hal : U.vm.Alike U'.vm) (hk : U'.heap[a]? = some A) : Ch a A U' := ⟨h.1.keep hal hk, h.2⟩
/-- what place i of a char[]'s cell holds -/
def cv (A : Cell) (i : Nat) : Int32 := match A.slots[i]? with | some (.int x) => x | _ => 0
theorem Ch.get {a : Addr} {A : Cell} {U : State} (h : Ch a A U) {i : Nat} (hi : i < A.slots.size) : A.slots[i]? = some (.int (cv A i)) := by
  have e := Array.getElem?_eq_getElem hi
  have f := h.2 i _ e
  unfold cv; rw [e]
  generalize A.slots[i] = v at f
  cases v <;> simp [fits] at f ⊢
/-- the byte that i2b leaves of a char -/
def lo8 (x : Int32) : Int32 := x.toInt8.toInt32
theorem fits_lo8 (y : Int32) : fits .byte (.int (lo8 y)) = true := by
  have h1 := y.toInt8.le_toInt
  have h2 := y.toInt8.toInt_lt
  simp only [lo8, fits, Bool.and_eq_true, decide_eq_true_eq, Int32.le_iff_toInt_le, Int8.toInt_toInt32, show (-128 : Int32).toInt = -128 from by decide, show (127 : Int32).toInt = 127 from by decide]
  omega
/-- A' is A but that each place j of lo .. hi - 1 holds f j -/
def Laid (A A' : Cell) (lo hi : Nat) (f : Nat → Value) : Prop := A'.cls = A.cls ∧ A'.vm = A.vm ∧ A'.slots.size = A.slots.size ∧ ∀ i, A'.slots[i]? = if lo ≤ i ∧ i < hi then some (f i) else A.slots[i]?
theorem Laid.zero (A : Cell) (lo : Nat) (f : Nat → Value) : Laid A A lo (lo + 0) f := ⟨rfl, rfl, rfl, fun i => by rw [if_neg (by omega)]⟩
theorem Laid.step {A Ak : Cell} {lo k : Nat} {f : Nat → Value} {v : Value} (h : Laid A Ak lo k f) (hlo : lo ≤ k) (hk : k < Ak.slots.size) (hv : v = f k) : Laid A (Ak.setSlot k v) lo (k + 1) f := by
  refine ⟨h.1, h.2.1, by simpa [Cell.setSlot] using h.2.2.1, fun i => ?_⟩
  by_cases e : k = i
  · subst e; rw [Cell.slots_setSlot_self v hk, if_pos (by omega), hv]
  · rw [Cell.slots_setSlot_ne v e, h.2.2.2 i]
    by_cases q : lo ≤ i ∧ i < k
    · rw [if_pos q, if_pos (by omega)]
    · rw [if_neg q, if_neg (by omega)]
def U16 : String := "java/lang/StringUTF16"
namespace Cmp5
def yN : MethodName := ⟨"java/lang/StringUTF16", "compress", "([CI[BII)I"⟩
abbrev yB : ByteArray := jdk_52_method_21_code
theorem d0 : decode yB 0 = .ok (.iconst 0, 1) := by decide +kernel
theorem d1 : decode yB 1 = .ok (.istore 5, 2) := by decide +kernel
theorem d3 : decode yB 3 = .ok (.iload 5, 2) := by decide +kernel
theorem d5 : decode yB 5 = .ok (.iload 4, 2) := by decide +kernel
theorem d7 : decode yB 7 = .ok (.if_icmp (.ge) 37, 3) := by decide +kernel
theorem d10 : decode yB 10 = .ok (.aload_n 0, 1) := by decide +kernel
theorem d11 : decode yB 11 = .ok (.iload_n 1, 1) := by decide +kernel
theorem d12 : decode yB 12 = .ok (.caload, 1) := by decide +kernel
theorem d13 : decode yB 13 = .ok (.istore 6, 2) := by decide +kernel
theorem d15 : decode yB 15 = .ok (.iload 6, 2) := by decide +kernel
theorem d17 : decode yB 17 = .ok (.sipush 255, 3) := by decide +kernel
theorem d20 : decode yB 20 = .ok (.if_icmp (.le) 6, 3) := by decide +kernel
theorem d26 : decode yB 26 = .ok (.aload_n 2, 1) := by decide +kernel
theorem d27 : decode yB 27 = .ok (.iload_n 3, 1) := by decide +kernel
theorem d28 : decode yB 28 = .ok (.iload 6, 2) := by decide +kernel
theorem d30 : decode yB 30 = .ok (.i2b, 1) := by decide +kernel
theorem d31 : decode yB 31 = .ok (.bastore, 1) := by decide +kernel
theorem d32 : decode yB 32 = .ok (.iinc 1 1, 3) := by decide +kernel
theorem d35 : decode yB 35 = .ok (.iinc 3 1, 3) := by decide +kernel
theorem d38 : decode yB 38 = .ok (.iinc 5 1, 3) := by decide +kernel
theorem d41 : decode yB 41 = .ok (.goto (-38), 3) := by decide +kernel
theorem d44 : decode yB 44 = .ok (.iload 4, 2) := by decide +kernel
theorem d46 : decode yB 46 = .ok (.ireturn, 1) := by decide +kernel
def site : List Cond := []
def tab : Cond := tabOf yN yB 7 (some .int) site
def P (b : Addr) (A : Cell) (d : Addr) (B : Cell) (o q len : Nat) (args : Array Value) (s : State) : Prop := args = #[.ref b, .int (Int32.ofNat o), .ref d, .int (Int32.ofNat q), .int (Int32.ofNat len)] ∧ Ch b A s ∧ Arr .byte d B s ∧ b ≠ d ∧ o + len ≤ A.slots.size ∧ q + len ≤ B.slots.size ∧ ∀ i, i < len → ¬ 255 < cv A (o + i)
def E (b : Addr) (A : Cell) (d : Addr) (B : Cell) (o q len : Nat) (r : Option Value) (s u : State) : Prop := r = some (.int (Int32.ofNat len)) ∧ ∃ B', Put d B' s u ∧ Laid B B' q (q + len) (fun j => Value.int (lo8 (cv A (o + (j - q)))))
/-- no char of the range above 255: len; the places written hold each char's low byte -/
theorem law (l : Launch) (b : Addr) (A : Cell) (d : Addr) (B : Cell) (o q len : Nat) : Law l yN 5 5 0 0 yB 7 (some .int) site (P b A d B o q len) (E b A d B o q len) (copyLocs d q len) 0 0 := by
  refine Law.of_walk (plainFor_of_name (by decide +kernel)) (by decide +kernel) (by decide +kernel) (by decide) (fun _ _ h => by rw [h.1]; rfl) (fun _ U U' hal hh h => ⟨h.1, h.2.1.mv hal hh, h.2.2.1.mv hal hh, h.2.2.2⟩) (fun r U U' V V' h1 hal h2 h => ⟨h.1, h.2.elim fun B' q => ⟨B', q.1.mv h1 h2, q.2⟩⟩) ?_
  intro p e s m args below meth c s₁ X0 hexec hbytes hml hret hlk hnm hown hh0 W hP
  obtain ⟨rfl, hA, hB, hne, l1, l2, hp⟩ := hP
  have c1 : Steps p.tables e below (s₁.setTop (entryFrame m #[.ref b, .int (Int32.ofNat o), .ref d, .int (Int32.ofNat q), .int (Int32.ofNat len)] 7)) (s₁.setTop (mkF m 0 #[.val (.ref b), .val (.int (Int32.ofNat o)), .val (.ref d), .val (.int (Int32.ofNat q)), .val (.int (Int32.ofNat len)), .unset, .unset] [])) := entry rfl
  have hA0 := hA.1.mv X0.warmed.alike hh0
  have hB0 := hB.mv X0.warmed.alike hh0
  have a31 := hA.1.2.2.2
  have c2 : Steps p.tables e below (s₁.setTop (entryFrame m #[.ref b, .int (Int32.ofNat o), .ref d, .int (Int32.ofNat q), .int (Int32.ofNat len)] 7)) (s₁.setTop (mkF m 3 #[.val (.ref b), .val (.int (Int32.ofNat o)), .val (.ref d), .val (.int (Int32.ofNat q)), .val (.int (Int32.ofNat len)), .val (.int 0), .unset] [])) := c1.trans (by
    refine iconstV X0.here hexec rfl 0 (hb hbytes d0) (by decide) ?_
    refine XS.istore X0.here hexec rfl (hb hbytes d1) rfl rfl ?_
    exact Steps.refl _)
  have loop : ∀ (r i : Nat), i + r = len → ∀ (z : Slot), (z = .unset ∨ ∃ w, z = .val w ∧ w.category = 1) → ∀ (Tl : State) (Bk : Cell), Stand p l e { frames := 0, locals := 0, cells := 0, slots := 0 } s m #[.ref b, .int (Int32.ofNat o), .ref d, .int (Int32.ofNat q), .int (Int32.ofNat len)] below meth c Tl ([] ++ copyLocs d q i) 0 0 → Put d Bk s₁ Tl → Laid B Bk q (q + i) (fun j => Value.int (lo8 (cv A (o + (j - q))))) →
      Steps p.tables e below (s₁.setTop (entryFrame m #[.ref b, .int (Int32.ofNat o), .ref d, .int (Int32.ofNat q), .int (Int32.ofNat len)] 7)) (Tl.setTop (mkF m 3 #[.val (.ref b), .val (.int (Int32.ofNat (o + i))), .val (.ref d), .val (.int (Int32.ofNat (q + i))), .val (.int (Int32.ofNat len)), .val (.int (Int32.ofNat i)), z] [])) → ∃ (T' : State) (B' : Cell) (z' : Slot), Stand p l e { frames := 0, locals := 0, cells := 0, slots := 0 } s m #[.ref b, .int (Int32.ofNat o), .ref d, .int (Int32.ofNat q), .int (Int32.ofNat len)] below meth c T' ([] ++ copyLocs d q len) 0 0 ∧ Put d B' s₁ T' ∧ Laid B B' q (q + len) (fun j => Value.int (lo8 (cv A (o + (j - q))))) ∧
      Steps p.tables e below (s₁.setTop (entryFrame m #[.ref b, .int (Int32.ofNat o), .ref d, .int (Int32.ofNat q), .int (Int32.ofNat len)] 7)) (T'.setTop (mkF m 3 #[.val (.ref b), .val (.int (Int32.ofNat (o + len))), .val (.ref d), .val (.int (Int32.ofNat (q + len))), .val (.int (Int32.ofNat len)), .val (.int (Int32.ofNat len)), z'] [])) := by
    intro r
    induction r with
    | zero =>
      intro i hi z hz Tl Bk Xl pl fl cl
      have hil : i = len := by omega
      rw [hil] at Xl fl cl
      exact ⟨Tl, Bk, z, Xl, pl, fl, cl⟩
    | succ r ih =>
      intro i hi z hz Tl Bk Xl pl fl cl
      have all := X0.warmed.alike.symm.trans Xl.warmed.alike
      have hAl := hA0.keep all (pl.other hne hA0.1)
      have hBk := hB0.like all pl.1 fl.1 fl.2.1 fl.2.2.1
      have hlt : q + i < Bk.slots.size := by rw [fl.2.2.1]; omega
      have c3 : Steps p.tables e below (s₁.setTop (entryFrame m #[.ref b, .int (Int32.ofNat o), .ref d, .int (Int32.ofNat q), .int (Int32.ofNat len)] 7)) (Tl.setTop (mkF m 12 #[.val (.ref b), .val (.int (Int32.ofNat (o + i))), .val (.ref d), .val (.int (Int32.ofNat (q + i))), .val (.int (Int32.ofNat len)), .val (.int (Int32.ofNat i)), z] [.int (Int32.ofNat (o + i)), .ref b])) := cl.trans (by
        refine XS.iload Xl.here hexec rfl (hb hbytes d3) rfl ?_
        refine XS.iload Xl.here hexec rfl (hb hbytes d5) rfl ?_
        refine XS.icmpNo Xl.here hexec rfl (hb hbytes d7) rfl (ii_ge_f (lt32 (by omega) (by omega))) ?_
        refine XS.aloadN Xl.here hexec rfl (hb hbytes d10) rfl rfl ?_
        refine XS.iloadN Xl.here hexec rfl (hb hbytes d11) rfl ?_
        exact Steps.refl _)
      have c4 : Steps p.tables e below (s₁.setTop (entryFrame m #[.ref b, .int (Int32.ofNat o), .ref d, .int (Int32.ofNat q), .int (Int32.ofNat len)] 7)) (Tl.setTop (mkF m 13 #[.val (.ref b), .val (.int (Int32.ofNat (o + i))), .val (.ref d), .val (.int (Int32.ofNat (q + i))), .val (.int (Int32.ofNat len)), .val (.int (Int32.ofNat i)), z] [.int (cv A (o + i))])) := c3.trans (by
        refine Xl.aget hexec hAl rfl (hA.get (i := o + i) (by omega)) rfl rfl (hb hbytes d12) ?_
        exact Steps.refl _)
      have c5 : Steps p.tables e below (s₁.setTop (entryFrame m #[.ref b, .int (Int32.ofNat o), .ref d, .int (Int32.ofNat q), .int (Int32.ofNat len)] 7)) (Tl.setTop (mkF m 15 #[.val (.ref b), .val (.int (Int32.ofNat (o + i))), .val (.ref d), .val (.int (Int32.ofNat (q + i))), .val (.int (Int32.ofNat len)), .val (.int (Int32.ofNat i)), .val (.int (cv A (o + i)))] [])) := c4.trans (by
        refine XS.istoreS Xl.here hexec rfl (hb hbytes d13) rfl rfl hz ?_
        exact Steps.refl _)
      have c6 : Steps p.tables e below (s₁.setTop (entryFrame m #[.ref b, .int (Int32.ofNat o), .ref d, .int (Int32.ofNat q), .int (Int32.ofNat len)] 7)) (Tl.setTop (mkF m 31 #[.val (.ref b), .val (.int (Int32.ofNat (o + i))), .val (.ref d), .val (.int (Int32.ofNat (q + i))), .val (.int (Int32.ofNat len)), .val (.int (Int32.ofNat i)), .val (.int (cv A (o + i)))] [.int (lo8 (cv A (o + i))), .int (Int32.ofNat (q + i)), .ref d])) := c5.trans (by
        refine XS.iload Xl.here hexec rfl (hb hbytes d15) rfl ?_
        refine sipushV Xl.here hexec rfl 255 (hb hbytes d17) (by decide) ?_
        refine XS.icmpYes Xl.here hexec rfl (pc0 := 20) rfl (hb hbytes d20) rfl (ii_le_t (hp i (by omega))) (by decide) rfl ?_
        refine XS.aloadN Xl.here hexec rfl (hb hbytes d26) rfl rfl ?_
        refine XS.iloadN Xl.here hexec rfl (hb hbytes d27) rfl ?_
        refine XS.iload Xl.here hexec rfl (hb hbytes d28) rfl ?_
        refine i2b Xl.here hexec rfl (hb hbytes d30) rfl ?_
        exact Steps.refl _)
      obtain ⟨T7, X7, p7, st7⟩ := Xl.aput hexec hBk rfl hlt rfl (fits_lo8 (cv A (o + i))) (g := (mkF m 31 #[.val (.ref b), .val (.int (Int32.ofNat (o + i))), .val (.ref d), .val (.int (Int32.ofNat (q + i))), .val (.int (Int32.ofNat len)), .val (.int (Int32.ofNat i)), .val (.int (cv A (o + i)))] [.int (lo8 (cv A (o + i))), .int (Int32.ofNat (q + i)), .ref d])) rfl (rest := []) rfl (hb hbytes d31)
      have c8 : Steps p.tables e below (s₁.setTop (entryFrame m #[.ref b, .int (Int32.ofNat o), .ref d, .int (Int32.ofNat q), .int (Int32.ofNat len)] 7)) (T7.setTop (mkF m 32 #[.val (.ref b), .val (.int (Int32.ofNat (o + i))), .val (.ref d), .val (.int (Int32.ofNat (q + i))), .val (.int (Int32.ofNat len)), .val (.int (Int32.ofNat i)), .val (.int (cv A (o + i)))] [])) := c6.trans (st7 _ (Steps.refl _))
      have c9 : Steps p.tables e below (s₁.setTop (entryFrame m #[.ref b, .int (Int32.ofNat o), .ref d, .int (Int32.ofNat q), .int (Int32.ofNat len)] 7)) (T7.setTop (mkF m 3 #[.val (.ref b), .val (.int (Int32.ofNat (o + i) + 1)), .val (.ref d), .val (.int (Int32.ofNat (q + i) + 1)), .val (.int (Int32.ofNat len)), .val (.int (Int32.ofNat i + 1)), .val (.int (cv A (o + i)))] [])) := c8.trans (by
        refine iincV X7.here hexec rfl 1 (hb hbytes d32) (by decide) rfl rfl ?_
        refine iincV X7.here hexec rfl 1 (hb hbytes d35) (by decide) rfl rfl ?_
        refine iincV X7.here hexec rfl 1 (hb hbytes d38) (by decide) rfl rfl ?_
        refine XS.goto X7.here hexec rfl (pc0 := 41) rfl (hb hbytes d41) (by decide) rfl ?_
        exact Steps.refl _)
      have c10 : Steps p.tables e below (s₁.setTop (entryFrame m #[.ref b, .int (Int32.ofNat o), .ref d, .int (Int32.ofNat q), .int (Int32.ofNat len)] 7)) (T7.setTop (mkF m 3 #[.val (.ref b), .val (.int (Int32.ofNat (o + (i + 1)))), .val (.ref d), .val (.int (Int32.ofNat (q + (i + 1)))), .val (.int (Int32.ofNat len)), .val (.int (Int32.ofNat (i + 1))), .val (.int (cv A (o + i)))] [])) := by
        have := c9
        rw [succ32, succ32, succ32] at this
        exact this
      exact ih (i + 1) (by omega) _ (Or.inr ⟨_, rfl, rfl⟩) T7 _ (by rw [copyLocs_step, ← List.append_assoc]; exact X7) (pl.trans p7) (fl.step (by omega) hlt (by simp)) c10
  obtain ⟨T9, B9, z9, X9, p9, f9, g9⟩ := loop len 0 (by omega) .unset (Or.inl rfl) s₁ B (by simpa [copyLocs] using X0) ⟨hB0.1, fun _ _ => rfl, rfl⟩ (Laid.zero _ _ _) c2
  have c11 : Steps p.tables e below (s₁.setTop (entryFrame m #[.ref b, .int (Int32.ofNat o), .ref d, .int (Int32.ofNat q), .int (Int32.ofNat len)] 7)) (T9.setTop (mkF m 46 #[.val (.ref b), .val (.int (Int32.ofNat (o + len))), .val (.ref d), .val (.int (Int32.ofNat (q + len))), .val (.int (Int32.ofNat len)), .val (.int (Int32.ofNat len)), z9] [.int (Int32.ofNat len)])) := g9.trans (by
    refine XS.iload X9.here hexec rfl (hb hbytes d3) rfl ?_
    refine XS.iload X9.here hexec rfl (hb hbytes d5) rfl ?_
    refine XS.icmpYes X9.here hexec rfl (pc0 := 7) rfl (hb hbytes d7) rfl (ii_ge_t (nlt32 (by omega) (Nat.le_refl _))) (by decide) rfl ?_
    refine XS.iload X9.here hexec rfl (hb hbytes d44) rfl ?_
    exact Steps.refl _)
  exact ⟨T9, some (.int (Int32.ofNat len)), _, _, _, X9, by simp, rfl, rfl, (fun h => by cases h), ⟨rfl, B9, p9.from hh0, f9⟩, fun fs hl => c11.trans (X9.ireturnOut hexec hret rfl (Or.inl rfl) (hb hbytes d46) hl)⟩
end Cmp5
namespace Cmp3
def yN : MethodName := ⟨"java/lang/StringUTF16", "compress", "([CII)[B"⟩
abbrev yB : ByteArray := jdk_52_method_16_code
theorem d0 : decode yB 0 = .ok (.iload_n 2, 1) := by decide +kernel
theorem d1 : decode yB 1 = .ok (.newarray .byte, 2) := by decide +kernel
theorem d3 : decode yB 3 = .ok (.astore_n 3, 1) := by decide +kernel
theorem d4 : decode yB 4 = .ok (.aload_n 0, 1) := by decide +kernel
theorem d5 : decode yB 5 = .ok (.iload_n 1, 1) := by decide +kernel
theorem d6 : decode yB 6 = .ok (.aload_n 3, 1) := by decide +kernel
theorem d7 : decode yB 7 = .ok (.iconst 0, 1) := by decide +kernel
theorem d8 : decode yB 8 = .ok (.iload_n 2, 1) := by decide +kernel
theorem d9 : decode yB 9 = .ok (.invokestatic 115, 3) := by decide +kernel
theorem d12 : decode yB 12 = .ok (.istore 4, 2) := by decide +kernel
theorem d14 : decode yB 14 = .ok (.iload 4, 2) := by decide +kernel
theorem d16 : decode yB 16 = .ok (.iload_n 2, 1) := by decide +kernel
theorem d17 : decode yB 17 = .ok (.if_icmp (.eq) 40, 3) := by decide +kernel
theorem d57 : decode yB 57 = .ok (.aload_n 3, 1) := by decide +kernel
theorem d58 : decode yB 58 = .ok (.areturn, 1) := by decide +kernel
def site : List Cond := [.arrayClass .byte, Cmp5.tab] ++ staticW U16 115 Cmp5.yN
def tab : Cond := tabOf yN yB 6 (some (.array .byte)) site
def P (b : Addr) (A : Cell) (o len : Nat) (args : Array Value) (s : State) : Prop := args = #[.ref b, .int (Int32.ofNat o), .int (Int32.ofNat len)] ∧ Ch b A s ∧ o + len ≤ A.slots.size ∧ len ≤ 536870912 ∧ ∀ i, i < len → ¬ 255 < cv A (o + i)
def E (b : Addr) (A : Cell) (o len : Nat) (r : Option Value) (s u : State) : Prop := NewArr .byte "[B" len (fun j => .int (lo8 (cv A (o + j)))) r s u ∧ u.heap.size = s.heap.size + 1
/-- no char of the range above 255: a new byte[] of their low bytes -/
theorem law (l : Launch) (b : Addr) (A : Cell) (o len : Nat) : Law l yN 3 3 1 18 yB 6 (some (.array .byte)) site (P b A o len) (E b A o len) [] 1 len := by
  refine Law.of_walk (plainFor_of_name (by decide +kernel)) (by decide +kernel) (by decide +kernel) (by decide) (fun _ _ h => by rw [h.1]; rfl) (fun _ U U' hal hh h => ⟨h.1, h.2.1.mv hal hh, h.2.2⟩) (fun r U U' V V' h1 hal h2 h => ⟨NewArr.mv r U U' V V' h1 hal h2 h.1, by rw [h1, h2]; exact h.2⟩) ?_
  intro p e s m args below meth c s₁ X0 hexec hbytes hml hret hlk hnm hown hh0 W hP
  obtain ⟨rfl, hA, l1, l2, hp⟩ := hP
  have a31 := hA.1.2.2.2
  have c1 : Steps p.tables e below (s₁.setTop (entryFrame m #[.ref b, .int (Int32.ofNat o), .int (Int32.ofNat len)] 6)) (s₁.setTop (mkF m 0 #[.val (.ref b), .val (.int (Int32.ofNat o)), .val (.int (Int32.ofNat len)), .unset, .unset, .unset] [])) := entry rfl
  have c2 : Steps p.tables e below (s₁.setTop (entryFrame m #[.ref b, .int (Int32.ofNat o), .int (Int32.ofNat len)] 6)) (s₁.setTop (mkF m 1 #[.val (.ref b), .val (.int (Int32.ofNat o)), .val (.int (Int32.ofNat len)), .unset, .unset, .unset] [.int (Int32.ofNat len)])) := c1.trans (by
    refine XS.iloadN X0.here hexec rfl (hb hbytes d0) rfl ?_
    exact Steps.refl _)
  obtain ⟨T3, B3, X3, ba3, bs3, bv3, bh3, bf3, st3⟩ := X0.anew hexec (atype := .byte) (wk W (.arrayClass .byte)) rfl (by show len * 1 ≤ _; omega) (by omega) (g := (mkF m 1 #[.val (.ref b), .val (.int (Int32.ofNat o)), .val (.int (Int32.ofNat len)), .unset, .unset, .unset] [.int (Int32.ofNat len)])) rfl (hb hbytes d1) (rest := []) rfl (Nat.le_refl _) (by show 0 + len ≤ len; omega)
  rw [hh0] at ba3 st3
  have kp3 : XT.Kept s T3 := (XT.Kept.of_eq hh0).push bh3
  have hA3 := hA.keep X3.warmed.alike (kp3 _ _ hA.1.1)
  have hne : b ≠ s.heap.size := hA.1.ne
  have c4 : Steps p.tables e below (s₁.setTop (entryFrame m #[.ref b, .int (Int32.ofNat o), .int (Int32.ofNat len)] 6)) (T3.setTop (mkF m 3 #[.val (.ref b), .val (.int (Int32.ofNat o)), .val (.int (Int32.ofNat len)), .unset, .unset, .unset] [.ref s.heap.size])) := c2.trans (st3 _ (Steps.refl _))
  have c5 : Steps p.tables e below (s₁.setTop (entryFrame m #[.ref b, .int (Int32.ofNat o), .int (Int32.ofNat len)] 6)) (T3.setTop (mkF m 9 #[.val (.ref b), .val (.int (Int32.ofNat o)), .val (.int (Int32.ofNat len)), .val (.ref s.heap.size), .unset, .unset] [.int (Int32.ofNat len), .int 0, .ref s.heap.size, .int (Int32.ofNat o), .ref b])) := c4.trans (by
    refine XS.astoreN X3.here hexec rfl (hb hbytes d3) rfl rfl rfl ?_
    refine XS.aloadN X3.here hexec rfl (hb hbytes d4) rfl rfl ?_
    refine XS.iloadN X3.here hexec rfl (hb hbytes d5) rfl ?_
    refine XS.aloadN X3.here hexec rfl (hb hbytes d6) rfl rfl ?_
    refine iconstV X3.here hexec rfl 0 (hb hbytes d7) (by decide) ?_
    refine XS.iloadN X3.here hexec rfl (hb hbytes d8) rfl ?_
    exact Steps.refl _)
  obtain ⟨v6, T6, X6, E6, g6⟩ := X3.callS hexec (Cmp5.law l b A s.heap.size B3 o 0 len) hown (wks W (staticW U16 115 Cmp5.yN)) (wk W Cmp5.tab) (W := 0) (Nat.le_of_ble_eq_true rfl) (Nat.le_of_ble_eq_true rfl) (Nat.le_refl _) (by show 0 + len + 0 ≤ len; omega) (g := (mkF m 9 #[.val (.ref b), .val (.int (Int32.ofNat o)), .val (.int (Int32.ofNat len)), .val (.ref s.heap.size), .unset, .unset] [.int (Int32.ofNat len), .int (Int32.ofNat 0), .ref s.heap.size, .int (Int32.ofNat o), .ref b])) rfl (by rw [hml]; rfl) c5 (argsL := [.ref b, .int (Int32.ofNat o), .ref s.heap.size, .int (Int32.ofNat 0), .int (Int32.ofNat len)]) (rest := []) rfl rfl (by show 2 * 0 + 0 ≤ _; decide) (hb hbytes d9) (⟨rfl, hA3, ba3, hne, l1, by rw [bs3]; simp, hp⟩)
  obtain ⟨rfl, B6, p6, f6⟩ := E6
  have c7 : Steps p.tables e below (s₁.setTop (entryFrame m #[.ref b, .int (Int32.ofNat o), .int (Int32.ofNat len)] 6)) (T6.setTop (mkF m 12 #[.val (.ref b), .val (.int (Int32.ofNat o)), .val (.int (Int32.ofNat len)), .val (.ref s.heap.size), .unset, .unset] [.int (Int32.ofNat len)])) := g6
  have c8 : Steps p.tables e below (s₁.setTop (entryFrame m #[.ref b, .int (Int32.ofNat o), .int (Int32.ofNat len)] 6)) (T6.setTop (mkF m 58 #[.val (.ref b), .val (.int (Int32.ofNat o)), .val (.int (Int32.ofNat len)), .val (.ref s.heap.size), .val (.int (Int32.ofNat len)), .unset] [.ref s.heap.size])) := c7.trans (by
    refine XS.istore X6.here hexec rfl (hb hbytes d12) rfl rfl ?_
    refine XS.iload X6.here hexec rfl (hb hbytes d14) rfl ?_
    refine XS.iloadN X6.here hexec rfl (hb hbytes d16) rfl ?_
    refine XS.icmpYes X6.here hexec rfl (pc0 := 17) rfl (hb hbytes d17) rfl (ii_eq_t rfl) (by decide) rfl ?_
    refine XS.aloadN X6.here hexec rfl (hb hbytes d57) rfl rfl ?_
    exact Steps.refl _)
  have X8 := X6.wide (L' := []) (cells' := 1) (slots' := len) (fun x hx hlt => by
    simp only [List.nil_append, copyLocs, List.mem_map, List.mem_range] at hx
    obtain ⟨i, -, rfl⟩ := hx
    exact absurd hlt (Nat.lt_irrefl _)) (Nat.le_refl _) (by omega)
  exact ⟨T6, some (.ref s.heap.size), _, _, _, X8, rfl, rfl, rfl, (fun h => by cases h), ⟨⟨rfl, B6, ba3.like (X3.warmed.alike.symm.trans X6.warmed.alike) p6.1 f6.1 f6.2.1 f6.2.2.1, f6.2.1.trans bv3, by rw [X6.warmed.alike.findClass, f6.1]; exact bf3, by rw [f6.2.2.1, bs3]; simp, fun j hj => by rw [f6.2.2.2 j, if_pos (by omega)]; rfl, kp3.put p6 (Nat.le_refl _)⟩, by rw [p6.2.2, bh3, hh0]; simp⟩, fun fs hl => c8.trans (X8.areturnOut hexec rfl hret rfl (hb hbytes d58) hl)⟩
end Cmp3
namespace CodL
def yN : MethodName := ⟨"java/lang/StringUTF16", "coderFromArrayLen", "([BI)B"⟩
abbrev yB : ByteArray := jdk_52_method_15_code
theorem d0 : decode yB 0 = .ok (.iload_n 1, 1) := by decide +kernel
theorem d1 : decode yB 1 = .ok (.aload_n 0, 1) := by decide +kernel
theorem d2 : decode yB 2 = .ok (.arraylength, 1) := by decide +kernel
theorem d3 : decode yB 3 = .ok (.isub, 1) := by decide +kernel
theorem d4 : decode yB 4 = .ok (.bipush 31, 2) := by decide +kernel
theorem d6 : decode yB 6 = .ok (.iushr, 1) := by decide +kernel
theorem d7 : decode yB 7 = .ok (.i2b, 1) := by decide +kernel
theorem d8 : decode yB 8 = .ok (.ireturn, 1) := by decide +kernel
def site : List Cond := []
def tab : Cond := tabOf yN yB 2 (some .byte) site
def P (d : Addr) (B : Cell) (args : Array Value) (s : State) : Prop := args = #[.ref d, .int (Int32.ofNat B.slots.size)] ∧ Arr .byte d B s
def E (r : Option Value) (s u : State) : Prop := XT.PureE (some (.int 0)) r s u
/-- an array as long as the number of chars: LATIN1 -/
theorem law (l : Launch) (d : Addr) (B : Cell) : Law l yN 2 2 0 0 yB 2 (some .byte) site (P d B) E [] 0 0 := by
  refine Law.of_walk (plainFor_of_name (by decide +kernel)) (by decide +kernel) (by decide +kernel) (by decide) (fun _ _ h => by rw [h.1]; rfl) (fun _ U U' hal hh h => ⟨h.1, h.2.mv hal hh⟩) (fun r U U' V V' h1 hal h2 h => XT.PureE.mv r U U' V V' h1 hal h2 h) ?_
  intro p e s m args below meth c s₁ X0 hexec hbytes hml hret hlk hnm hown hh0 W hP
  obtain ⟨rfl, hB⟩ := hP
  have hB0 := hB.mv X0.warmed.alike hh0
  have c1 : Steps p.tables e below (s₁.setTop (entryFrame m #[.ref d, .int (Int32.ofNat B.slots.size)] 2)) (s₁.setTop (mkF m 0 #[.val (.ref d), .val (.int (Int32.ofNat B.slots.size))] [])) := entry rfl
  have c2 : Steps p.tables e below (s₁.setTop (entryFrame m #[.ref d, .int (Int32.ofNat B.slots.size)] 2)) (s₁.setTop (mkF m 2 #[.val (.ref d), .val (.int (Int32.ofNat B.slots.size))] [.ref d, .int (Int32.ofNat B.slots.size)])) := c1.trans (by
    refine XS.iloadN X0.here hexec rfl (hb hbytes d0) rfl ?_
    refine XS.aloadN X0.here hexec rfl (hb hbytes d1) rfl rfl ?_
    exact Steps.refl _)
  have c3 : Steps p.tables e below (s₁.setTop (entryFrame m #[.ref d, .int (Int32.ofNat B.slots.size)] 2)) (s₁.setTop (mkF m 8 #[.val (.ref d), .val (.int (Int32.ofNat B.slots.size))] [.int (lo8 (ushr (Int32.ofNat B.slots.size - Int32.ofNat B.slots.size) 31))])) := c2.trans (by
    refine X0.alen hexec hB0 rfl rfl (hb hbytes d2) ?_
    refine XS.isub X0.here hexec rfl (hb hbytes d3) rfl ?_
    refine bipushV X0.here hexec rfl 31 (hb hbytes d4) (by decide) ?_
    refine iushr X0.here hexec rfl (hb hbytes d6) rfl ?_
    refine i2b X0.here hexec rfl (hb hbytes d7) rfl ?_
    exact Steps.refl _)
  have e0 : lo8 (ushr (Int32.ofNat B.slots.size - Int32.ofNat B.slots.size) 31) = 0 := by rw [Int32.sub_self]; decide
  rw [e0] at c3
  exact ⟨s₁, some (.int 0), _, _, _, X0, rfl, rfl, rfl, (fun h => by cases h), ⟨rfl, hh0⟩, fun fs hl => c3.trans (X0.ireturnOut hexec hret rfl (Or.inr (Or.inr (Or.inl rfl))) (hb hbytes d8) hl)⟩
end CodL
/-- the String at a is Latin-1 over a new byte[] (the heap's one new cell): the low bytes of the len chars of A from o on; every cell but a is kept -/
def Got (a : Addr) (D : Cell) (fV fC : Field) (A : Cell) (o len : Nat) (r : Option Value) (s u : State) : Prop := r = none ∧ ∃ D' V : Cell, Blank "java/lang/String" a D' u ∧ Same D D' [fV.slot, fC.slot] ∧ D'.slots[fV.slot]? = some (.ref s.heap.size) ∧ D'.slots[fC.slot]? = some (.int 0) ∧ Arr .byte s.heap.size V u ∧ V.vm = .none ∧ u.vm.findClass "[B" = some V.cls ∧ V.slots.size = len ∧ (∀ j, j < len → V.slots[j]? = some (.int (lo8 (cv A (o + j))))) ∧ (∀ (y : Addr) (c : Cell), y ≠ a → s.heap[y]? = some c → u.heap[y]? = some c) ∧ u.heap.size = s.heap.size + 1
theorem Got.mv {a : Addr} {D A : Cell} {fV fC : Field} {o len : Nat} : ∀ r (U U' V V' : State), U'.heap = U.heap → V.vm.Alike V'.vm → V'.heap = V.heap → Got a D fV fC A o len r U V → Got a D fV fC A o len r U' V' :=
  fun r U U' V V' h1 hal h2 ⟨e0, D', X, a1, a2, a3, a4, a5, a6, a7, a8, a9, a10, a11⟩ => ⟨e0, D', X, a1.mv hal h2, a2, by rw [h1]; exact a3, a4, by rw [h1]; exact a5.mv hal h2, a6, by rw [hal.findClass]; exact a7, a8, a9, by rw [h1, h2]; exact a10, by rw [h1, h2]; exact a11⟩
namespace New4
def yN : MethodName := ⟨"java/lang/String", "<init>", "([CIILjava/lang/Void;)V"⟩
abbrev yB : ByteArray := jdk_42_method_149_code
theorem d0 : decode yB 0 = .ok (.aload_n 0, 1) := by decide +kernel
theorem d1 : decode yB 1 = .ok (.invokespecial 1, 3) := by decide +kernel
theorem d4 : decode yB 4 = .ok (.iload_n 3, 1) := by decide +kernel
theorem d5 : decode yB 5 = .ok (.ifCond (.ne) 22, 3) := by decide +kernel
theorem d27 : decode yB 27 = .ok (.getstatic 38, 3) := by decide +kernel
theorem d30 : decode yB 30 = .ok (.ifCond (.eq) 28, 3) := by decide +kernel
theorem d33 : decode yB 33 = .ok (.aload_n 1, 1) := by decide +kernel
theorem d34 : decode yB 34 = .ok (.iload_n 2, 1) := by decide +kernel
theorem d35 : decode yB 35 = .ok (.iload_n 3, 1) := by decide +kernel
theorem d36 : decode yB 36 = .ok (.invokestatic 177, 3) := by decide +kernel
theorem d39 : decode yB 39 = .ok (.astore 5, 2) := by decide +kernel
theorem d41 : decode yB 41 = .ok (.aload_n 0, 1) := by decide +kernel
theorem d42 : decode yB 42 = .ok (.aload 5, 2) := by decide +kernel
theorem d44 : decode yB 44 = .ok (.iload_n 3, 1) := by decide +kernel
theorem d45 : decode yB 45 = .ok (.invokestatic 47, 3) := by decide +kernel
theorem d48 : decode yB 48 = .ok (.putfield 15, 3) := by decide +kernel
theorem d51 : decode yB 51 = .ok (.aload_n 0, 1) := by decide +kernel
theorem d52 : decode yB 52 = .ok (.aload 5, 2) := by decide +kernel
theorem d54 : decode yB 54 = .ok (.putfield 9, 3) := by decide +kernel
theorem d57 : decode yB 57 = .ok (.return_, 1) := by decide +kernel
def site : List Cond := [.fieldLink "java/lang/String" 38 "java/lang/String" "COMPACT_STRINGS" "Z", Cmp3.tab, CodL.tab, .laysFinal "java/lang/String" "java/lang/String" "value" "[B", .fieldLink "java/lang/String" 9 "java/lang/String" "value" "[B", .laysFinal "java/lang/String" "java/lang/String" "coder" "B", .fieldLink "java/lang/String" 15 "java/lang/String" "coder" "B"] ++ objW "java/lang/String" 1 ++ staticW "java/lang/String" 177 Cmp3.yN ++ staticW "java/lang/String" 47 CodL.yN
def tab : Cond := tabOf yN yB 6 none site
def P (a : Addr) (D : Cell) (fV fC : Field) (b : Addr) (A : Cell) (z : Int32) (o len : Nat) (args : Array Value) (s : State) : Prop := args = #[.ref a, .ref b, .int (Int32.ofNat o), .int (Int32.ofNat len), .null] ∧ Blank "java/lang/String" a D s ∧ Found "java/lang/String" "value" "[B" fV s ∧ Found "java/lang/String" "coder" "B" fC s ∧ Ch b A s ∧ StaticIs s "java/lang/String" "COMPACT_STRINGS" "Z" (.int z) ∧ ¬ z = 0 ∧ 0 < len ∧ o + len ≤ A.slots.size ∧ len ≤ 536870912 ∧ ∀ i, i < len → ¬ 255 < cv A (o + i)
def E (a : Addr) (D : Cell) (fV fC : Field) (A : Cell) (o len : Nat) (r : Option Value) (s u : State) : Prop := Got a D fV fC A o len r s u
/-- len > 0, no char of the range above 255: a Latin-1 String of their low bytes -/
theorem law (l : Launch) (a : Addr) (D : Cell) (fV fC : Field) (b : Addr) (A : Cell) (z : Int32) (o len : Nat) : Law l yN 5 4 2 35 yB 6 none site (P a D fV fC b A z o len) (E a D fV fC A o len) [⟨a, fC.slot⟩, ⟨a, fV.slot⟩] 1 len := by
  refine Law.of_walk (plainFor_of_name (by decide +kernel)) (by decide +kernel) (by decide +kernel) (by decide) (fun _ _ h => by rw [h.1]; rfl) (fun _ U U' hal hh h => ⟨h.1, h.2.1.mv hal hh, h.2.2.1.al hal, h.2.2.2.1.al hal, h.2.2.2.2.1.mv hal hh, h.2.2.2.2.2.1.there hal hh, h.2.2.2.2.2.2⟩) (fun r U U' V V' h1 hal h2 h => Got.mv r U U' V V' h1 hal h2 h) ?_
  intro p e s m args below meth c s₁ X0 hexec hbytes hml hret hlk hnm hown hh0 W hP
  obtain ⟨rfl, hB, f1, f2, hA, s1, hz, l0, l1, l2, hp⟩ := hP
  have a31 := hA.1.2.2.2
  have c1 : Steps p.tables e below (s₁.setTop (entryFrame m #[.ref a, .ref b, .int (Int32.ofNat o), .int (Int32.ofNat len), .null] 6)) (s₁.setTop (mkF m 0 #[.val (.ref a), .val (.ref b), .val (.int (Int32.ofNat o)), .val (.int (Int32.ofNat len)), .val .null, .unset] [])) := entry rfl
  have c2 : Steps p.tables e below (s₁.setTop (entryFrame m #[.ref a, .ref b, .int (Int32.ofNat o), .int (Int32.ofNat len), .null] 6)) (s₁.setTop (mkF m 1 #[.val (.ref a), .val (.ref b), .val (.int (Int32.ofNat o)), .val (.int (Int32.ofNat len)), .val .null, .unset] [.ref a])) := c1.trans (by
    refine XS.aloadN X0.here hexec rfl (hb hbytes d0) rfl rfl ?_
    exact Steps.refl _)
  obtain ⟨T3, X3, q3, st3⟩ := X0.oinit hexec hown (wks W (objW "java/lang/String" 1)) (g := (mkF m 1 #[.val (.ref a), .val (.ref b), .val (.int (Int32.ofNat o)), .val (.int (Int32.ofNat len)), .val .null, .unset] [.ref a])) rfl (by rw [hml]; rfl) (rest := []) rfl (hb hbytes d1) (W := 0) (by show 2 * 0 + 0 ≤ _; decide) (Nat.le_of_ble_eq_true rfl) (Nat.le_of_ble_eq_true rfl)
  have hh3 := q3.trans hh0
  have c4 : Steps p.tables e below (s₁.setTop (entryFrame m #[.ref a, .ref b, .int (Int32.ofNat o), .int (Int32.ofNat len), .null] 6)) (T3.setTop (mkF m 27 #[.val (.ref a), .val (.ref b), .val (.int (Int32.ofNat o)), .val (.int (Int32.ofNat len)), .val .null, .unset] [])) := (c2.trans (st3 _ (Steps.refl _))).trans (by
    refine XS.iloadN X3.here hexec rfl (hb hbytes d4) rfl ?_
    refine XS.ifYes X3.here hexec rfl (pc0 := 5) rfl (hb hbytes d5) rfl (i0_ne_t (nz32 (by omega) l0)) (by decide) rfl ?_
    exact Steps.refl _)
  obtain ⟨T5, X5, q5, st5⟩ := X3.sget hexec hown (wk W (.fieldLink "java/lang/String" 38 "java/lang/String" "COMPACT_STRINGS" "Z")) s1 (fun _ _ h => by rw [hh3]; exact h) (g := (mkF m 27 #[.val (.ref a), .val (.ref b), .val (.int (Int32.ofNat o)), .val (.int (Int32.ofNat len)), .val .null, .unset] [])) rfl (hb hbytes d27)
  have hh5 := q5.trans hh3
  have c6 : Steps p.tables e below (s₁.setTop (entryFrame m #[.ref a, .ref b, .int (Int32.ofNat o), .int (Int32.ofNat len), .null] 6)) (T5.setTop (mkF m 30 #[.val (.ref a), .val (.ref b), .val (.int (Int32.ofNat o)), .val (.int (Int32.ofNat len)), .val .null, .unset] [.int z])) := c4.trans (st5 _ (Steps.refl _))
  have c7 : Steps p.tables e below (s₁.setTop (entryFrame m #[.ref a, .ref b, .int (Int32.ofNat o), .int (Int32.ofNat len), .null] 6)) (T5.setTop (mkF m 36 #[.val (.ref a), .val (.ref b), .val (.int (Int32.ofNat o)), .val (.int (Int32.ofNat len)), .val .null, .unset] [.int (Int32.ofNat len), .int (Int32.ofNat o), .ref b])) := c6.trans (by
    refine XS.ifNo X5.here hexec rfl (hb hbytes d30) rfl (i0_eq_f hz) ?_
    refine XS.aloadN X5.here hexec rfl (hb hbytes d33) rfl rfl ?_
    refine XS.iloadN X5.here hexec rfl (hb hbytes d34) rfl ?_
    refine XS.iloadN X5.here hexec rfl (hb hbytes d35) rfl ?_
    exact Steps.refl _)
  obtain ⟨v8, T8, X8, E8, g8⟩ := X5.callS hexec (Cmp3.law l b A o len) hown (wks W (staticW "java/lang/String" 177 Cmp3.yN)) (wk W Cmp3.tab) (W := 0) (Nat.le_of_ble_eq_true rfl) (Nat.le_of_ble_eq_true rfl) (Nat.le_refl _) (by show 0 + len ≤ len; omega) (g := (mkF m 36 #[.val (.ref a), .val (.ref b), .val (.int (Int32.ofNat o)), .val (.int (Int32.ofNat len)), .val .null, .unset] [.int (Int32.ofNat len), .int (Int32.ofNat o), .ref b])) rfl (by rw [hml]; rfl) c7 (argsL := [.ref b, .int (Int32.ofNat o), .int (Int32.ofNat len)]) (rest := []) rfl rfl (by show 2 * 0 + 0 ≤ _; decide) (hb hbytes d36) (⟨rfl, hA.mv X5.warmed.alike hh5, l1, l2, hp⟩)
  obtain ⟨e8, z8⟩ := E8
  obtain ⟨rfl, N, n1, n2, n3, n4, n5, n6⟩ := NewArr.mv _ T5 s _ _ hh5.symm (Vm.Alike.refl _) rfl e8
  rw [hh5] at z8
  have hB1 := hB.keep X8.warmed.alike (n6 _ _ hB.1)
  have hne : s.heap.size ≠ a := (Nat.ne_of_lt (Array.getElem?_eq_some_iff.mp hB.1).1).symm
  have c9 : Steps p.tables e below (s₁.setTop (entryFrame m #[.ref a, .ref b, .int (Int32.ofNat o), .int (Int32.ofNat len), .null] 6)) (T8.setTop (mkF m 39 #[.val (.ref a), .val (.ref b), .val (.int (Int32.ofNat o)), .val (.int (Int32.ofNat len)), .val .null, .unset] [.ref s.heap.size])) := g8
  have c10 : Steps p.tables e below (s₁.setTop (entryFrame m #[.ref a, .ref b, .int (Int32.ofNat o), .int (Int32.ofNat len), .null] 6)) (T8.setTop (mkF m 45 #[.val (.ref a), .val (.ref b), .val (.int (Int32.ofNat o)), .val (.int (Int32.ofNat len)), .val .null, .val (.ref s.heap.size)] [.int (Int32.ofNat N.slots.size), .ref s.heap.size, .ref a])) := by
    have hc : Steps p.tables e below (s₁.setTop (entryFrame m #[.ref a, .ref b, .int (Int32.ofNat o), .int (Int32.ofNat len), .null] 6)) (T8.setTop (mkF m 45 #[.val (.ref a), .val (.ref b), .val (.int (Int32.ofNat o)), .val (.int (Int32.ofNat len)), .val .null, .val (.ref s.heap.size)] [.int (Int32.ofNat len), .ref s.heap.size, .ref a])) := c9.trans (by
      refine XS.astore X8.here hexec rfl (hb hbytes d39) rfl rfl rfl ?_
      refine XS.aloadN X8.here hexec rfl (hb hbytes d41) rfl rfl ?_
      refine XS.aload X8.here hexec rfl (hb hbytes d42) rfl rfl ?_
      refine XS.iloadN X8.here hexec rfl (hb hbytes d44) rfl ?_
      exact Steps.refl _)
    rw [n4]; exact hc
  obtain ⟨v11, T11, X11, E11, g11⟩ := X8.callS hexec (CodL.law l s.heap.size N) hown (wks W (staticW "java/lang/String" 47 CodL.yN)) (wk W CodL.tab) (W := 1) (Nat.le_of_ble_eq_true rfl) (Nat.le_of_ble_eq_true rfl) (Nat.le_refl _) (by show 0 + len + 0 ≤ len; omega) (g := (mkF m 45 #[.val (.ref a), .val (.ref b), .val (.int (Int32.ofNat o)), .val (.int (Int32.ofNat len)), .val .null, .val (.ref s.heap.size)] [.int (Int32.ofNat N.slots.size), .ref s.heap.size, .ref a])) rfl (by rw [hml]; rfl) c10 (argsL := [.ref s.heap.size, .int (Int32.ofNat N.slots.size)]) (rest := [.ref a]) rfl rfl (by show 2 * 0 + (1 + 0) ≤ _; decide) (hb hbytes d45) (⟨rfl, n1⟩)
  obtain ⟨rfl, q11⟩ := E11
  have hB11 := hB1.mv (X8.warmed.alike.symm.trans X11.warmed.alike) q11
  have c12 : Steps p.tables e below (s₁.setTop (entryFrame m #[.ref a, .ref b, .int (Int32.ofNat o), .int (Int32.ofNat len), .null] 6)) (T11.setTop (mkF m 48 #[.val (.ref a), .val (.ref b), .val (.int (Int32.ofNat o)), .val (.int (Int32.ofNat len)), .val .null, .val (.ref s.heap.size)] [.int 0, .ref a])) := g11
  obtain ⟨T13, X13, p13, bl13, sl13, st13⟩ := X11.finit hexec hown (wk W (.fieldLink "java/lang/String" 15 "java/lang/String" "coder" "B")) (Or.inr ⟨_, (wk W (.laysFinal "java/lang/String" "java/lang/String" "coder" "B"))⟩) (Or.inl ⟨rfl, hnm⟩) f2 (Or.inl rfl) hB11 (t := .byte) (by decide +kernel) rfl (g := (mkF m 48 #[.val (.ref a), .val (.ref b), .val (.int (Int32.ofNat o)), .val (.int (Int32.ofNat len)), .val .null, .val (.ref s.heap.size)] [.int 0, .ref a])) rfl (rest := []) rfl (hb hbytes d48)
  have c14 : Steps p.tables e below (s₁.setTop (entryFrame m #[.ref a, .ref b, .int (Int32.ofNat o), .int (Int32.ofNat len), .null] 6)) (T13.setTop (mkF m 54 #[.val (.ref a), .val (.ref b), .val (.int (Int32.ofNat o)), .val (.int (Int32.ofNat len)), .val .null, .val (.ref s.heap.size)] [.ref s.heap.size, .ref a])) := (c12.trans (st13 _ (Steps.refl _))).trans (by
    refine XS.aloadN X13.here hexec rfl (hb hbytes d51) rfl rfl ?_
    refine XS.aload X13.here hexec rfl (hb hbytes d52) rfl rfl ?_
    exact Steps.refl _)
  obtain ⟨T15, X15, p15, bl15, sl15, st15⟩ := X13.finit hexec hown (wk W (.fieldLink "java/lang/String" 9 "java/lang/String" "value" "[B")) (Or.inr ⟨_, (wk W (.laysFinal "java/lang/String" "java/lang/String" "value" "[B"))⟩) (Or.inl ⟨rfl, hnm⟩) f1 (Or.inl rfl) bl13 (t := (.array .byte)) (by decide +kernel) rfl (g := (mkF m 54 #[.val (.ref a), .val (.ref b), .val (.int (Int32.ofNat o)), .val (.int (Int32.ofNat len)), .val .null, .val (.ref s.heap.size)] [.ref s.heap.size, .ref a])) rfl (rest := []) rfl (hb hbytes d54)
  have c16 : Steps p.tables e below (s₁.setTop (entryFrame m #[.ref a, .ref b, .int (Int32.ofNat o), .int (Int32.ofNat len), .null] 6)) (T15.setTop (mkF m 57 #[.val (.ref a), .val (.ref b), .val (.int (Int32.ofNat o)), .val (.int (Int32.ofNat len)), .val .null, .val (.ref s.heap.size)] [])) := c14.trans (st15 _ (Steps.refl _))
  have ap := apart (Or.inr ⟨_, (wk W (.laysFinal "java/lang/String" "java/lang/String" "value" "[B"))⟩) (Or.inr ⟨_, (wk W (.laysFinal "java/lang/String" "java/lang/String" "coder" "B"))⟩) f1 f2 (t₁ := .array .byte) (t₂ := .byte) (by decide +kernel) (by decide +kernel) (by decide)
  have al := X8.warmed.alike.symm.trans X15.warmed.alike
  have n7 : T11.heap[s.heap.size]? = some N := by rw [q11]; exact n1.1
  exact ⟨T15, none, _, _, _, X15, by simp, rfl, by omega, (fun _ => rfl), ⟨rfl, _, N, bl15, ((Same.refl D _).set _ (by simp)).set _ (by simp), sl15, (Cell.slots_setSlot_ne _ ap).trans sl13, n1.keep al (p15.other hne (p13.other hne n7)), n2, by rw [al.findClass]; exact n3, n4, n5, fun y c h1 h2 => p15.other h1 (p13.other h1 (by rw [q11]; exact n6 y c h2)), by rw [p15.2.2, p13.2.2, q11]; exact z8⟩, fun fs hl => c16.trans (X15.returnOut hexec hret (hb hbytes d57) hl)⟩
end New4
namespace New1
def yN : MethodName := ⟨"java/lang/String", "<init>", "([C)V"⟩
abbrev yB : ByteArray := jdk_42_method_3_code
theorem d0 : decode yB 0 = .ok (.aload_n 0, 1) := by decide +kernel
theorem d1 : decode yB 1 = .ok (.aload_n 1, 1) := by decide +kernel
theorem d2 : decode yB 2 = .ok (.iconst 0, 1) := by decide +kernel
theorem d3 : decode yB 3 = .ok (.aload_n 1, 1) := by decide +kernel
theorem d4 : decode yB 4 = .ok (.arraylength, 1) := by decide +kernel
theorem d5 : decode yB 5 = .ok (.aconst_null, 1) := by decide +kernel
theorem d6 : decode yB 6 = .ok (.invokespecial 27, 3) := by decide +kernel
theorem d9 : decode yB 9 = .ok (.return_, 1) := by decide +kernel
def site : List Cond := [New4.tab] ++ initW "java/lang/String" 27 New4.yN
def tab : Cond := tabOf yN yB 2 none site
def P (a : Addr) (D : Cell) (fV fC : Field) (b : Addr) (A : Cell) (z : Int32) (args : Array Value) (s : State) : Prop := args = #[.ref a, .ref b] ∧ Blank "java/lang/String" a D s ∧ Found "java/lang/String" "value" "[B" fV s ∧ Found "java/lang/String" "coder" "B" fC s ∧ Ch b A s ∧ StaticIs s "java/lang/String" "COMPACT_STRINGS" "Z" (.int z) ∧ ¬ z = 0 ∧ 0 < A.slots.size ∧ A.slots.size ≤ 536870912 ∧ ∀ i, i < A.slots.size → ¬ 255 < cv A i
def E (a : Addr) (D : Cell) (fV fC : Field) (A : Cell) (r : Option Value) (s u : State) : Prop := Got a D fV fC A 0 A.slots.size r s u
/-- new String(chars), not empty, no char above 255: a Latin-1 String of their low bytes -/
theorem law (l : Launch) (a : Addr) (D : Cell) (fV fC : Field) (b : Addr) (A : Cell) (z : Int32) : Law l yN 2 1 3 52 yB 2 none site (P a D fV fC b A z) (E a D fV fC A) [⟨a, fC.slot⟩, ⟨a, fV.slot⟩] 1 A.slots.size := by
  refine Law.of_walk (plainFor_of_name (by decide +kernel)) (by decide +kernel) (by decide +kernel) (by decide) (fun _ _ h => by rw [h.1]; rfl) (fun _ U U' hal hh h => ⟨h.1, h.2.1.mv hal hh, h.2.2.1.al hal, h.2.2.2.1.al hal, h.2.2.2.2.1.mv hal hh, h.2.2.2.2.2.1.there hal hh, h.2.2.2.2.2.2⟩) (fun r U U' V V' h1 hal h2 h => Got.mv r U U' V V' h1 hal h2 h) ?_
  intro p e s m args below meth c s₁ X0 hexec hbytes hml hret hlk hnm hown hh0 W hP
  obtain ⟨rfl, hB, f1, f2, hA, s1, hz, l0, l2, hp⟩ := hP
  have c1 : Steps p.tables e below (s₁.setTop (entryFrame m #[.ref a, .ref b] 2)) (s₁.setTop (mkF m 0 #[.val (.ref a), .val (.ref b)] [])) := entry rfl
  have c2 : Steps p.tables e below (s₁.setTop (entryFrame m #[.ref a, .ref b] 2)) (s₁.setTop (mkF m 6 #[.val (.ref a), .val (.ref b)] [.null, .int (Int32.ofNat A.slots.size), .int 0, .ref b, .ref a])) := c1.trans (by
    refine XS.aloadN X0.here hexec rfl (hb hbytes d0) rfl rfl ?_
    refine XS.aloadN X0.here hexec rfl (hb hbytes d1) rfl rfl ?_
    refine iconstV X0.here hexec rfl 0 (hb hbytes d2) (by decide) ?_
    refine XS.aloadN X0.here hexec rfl (hb hbytes d3) rfl rfl ?_
    refine X0.alen hexec (hA.1.mv X0.warmed.alike hh0) rfl rfl (hb hbytes d4) ?_
    refine XS.aconstNull X0.here hexec rfl (hb hbytes d5) ?_
    exact Steps.refl _)
  obtain ⟨v3, T3, X3, E3, g3⟩ := X0.callN hexec (New4.law l a D fV fC b A z 0 A.slots.size) rfl hown (wks W (initW "java/lang/String" 27 New4.yN)) (W New4.tab (by simp only [site, List.mem_cons, List.mem_append, true_or, or_true])) (W := 0) (Nat.le_of_ble_eq_true rfl) (Nat.le_of_ble_eq_true rfl) (Nat.le_refl _) (by show 0 + A.slots.size ≤ A.slots.size; omega) (g := (mkF m 6 #[.val (.ref a), .val (.ref b)] [.null, .int (Int32.ofNat A.slots.size), .int (Int32.ofNat 0), .ref b, .ref a])) rfl (by rw [hml]; rfl) c2 (argsL := [.ref b, .int (Int32.ofNat 0), .int (Int32.ofNat A.slots.size), .null]) (rest := []) rfl rfl (by show 2 * 0 + 0 ≤ _; decide) (hb hbytes d6) (⟨rfl, hB.mv X0.warmed.alike hh0, f1.al X0.warmed.alike, f2.al X0.warmed.alike, hA.mv X0.warmed.alike hh0, s1.there X0.warmed.alike hh0, hz, l0, by omega, l2, fun i hi => by rw [Nat.zero_add]; exact hp i hi⟩)
  have e0 := Got.mv _ s₁ s _ _ hh0.symm (Vm.Alike.refl _) rfl E3
  obtain rfl := e0.1
  have c4 : Steps p.tables e below (s₁.setTop (entryFrame m #[.ref a, .ref b] 2)) (T3.setTop (mkF m 9 #[.val (.ref a), .val (.ref b)] [])) := g3
  exact ⟨T3, none, _, _, _, X3, by simp, rfl, by omega, (fun _ => rfl), e0, fun fs hl => c4.trans (X3.returnOut hexec hret (hb hbytes d9) hl)⟩
theorem pays {l : Launch} {R : Room} {p : Program} {e : Env} {below : List Frame} {s : State} {sargs : Array Value} {len W : Nat} (a : Addr) (D : Cell) (fV fC : Field) (b : Addr) (A : Cell) (z : Int32) (htab : tab.before sargs s = true) (hfr : 4 ≤ R.frames) (hlo : W + 65 ≤ R.locals) :
    Back l R p e below s sargs yN len W (fun A₁ a₁ => A₁.cells + 1 ≤ R.cells ∧ A₁.slots + A.slots.size ≤ R.slots ∧ P a D fV fC b A z a₁ A₁.U) (fun A₁ _ v₁ B₁ => E a D fV fC A v₁ A₁.U B₁.U ∧ B₁.locs = A₁.locs ++ [⟨a, fC.slot⟩, ⟨a, fV.slot⟩] ∧ B₁.cells = A₁.cells + 1 ∧ B₁.slots = A₁.slots + A.slots.size) :=
  (law l a D fV fC b A z).pays htab hfr (by omega)
end New1
/-- the byte, read back as charAt reads it, is the char -/
theorem lo8_mask {x : Int32} (h0 : ¬ x < 0) (h1 : ¬ 255 < x) : lo8 x &&& 255 = x := by
  have t : ∀ k : Fin 256, lo8 (Int32.ofNat k.val) &&& 255 = Int32.ofNat k.val := by decide +kernel
  rw [Int32.lt_iff_toInt_lt] at h0 h1
  have e0 : (0 : Int32).toInt = 0 := rfl
  have e1 : (255 : Int32).toInt = 255 := rfl
  obtain ⟨k, hk⟩ : ∃ k : Nat, x.toInt = k := ⟨x.toInt.toNat, by omega⟩
  have hx : x = Int32.ofNat k := Int32.toInt_inj.mp (by rw [hk, Int32.toInt_ofNat_small (by omega)])
  rw [hx]
  exact t ⟨k, by omega⟩
end StrChars
namespace StrChars.Road
open Jvm Sem ClassFile Op Lib Jvm.Stand Jvm.Free Jvm.Free.XT
open Jvm.Lib.Cold (StaticIs)
abbrev ST : String := "java/lang/String"
/-- every table word that New1's law asks, flat -/
abbrev words : List Jvm.Cond := [.code New1.yN New1.yB 2 none, .initialized ST, .methodLink ST 27 New4.yN, .instanceMethod New4.yN,
  .code New4.yN New4.yB 6 none, .fieldLink ST 38 ST "COMPACT_STRINGS" "Z", .laysFinal ST ST "value" "[B", .fieldLink ST 9 ST "value" "[B", .laysFinal ST ST "coder" "B", .fieldLink ST 15 ST "coder" "B",
  .methodLink ST 1 Lib.objectInit, .instanceMethod Lib.objectInit, .code Lib.objectInit ⟨#[0xb1]⟩ 1 none, .methodLink ST 177 Cmp3.yN, .static Cmp3.yN, .methodLink ST 47 CodL.yN, .static CodL.yN,
  .code Cmp3.yN Cmp3.yB 6 (some (.array .byte)), .initialized U16, .arrayClass .byte, .methodLink U16 115 Cmp5.yN, .static Cmp5.yN, .code Cmp5.yN Cmp5.yB 7 (some .int), .code CodL.yN CodL.yB 2 (some .byte)]
theorem tab_of {a : Array Value} {s : State} (h : ∀ w ∈ words, w.before a s = true) : New1.tab.before a s = true := by
  have h5 : Cmp5.tab.before a s = true := unparts (wk h (.code Cmp5.yN Cmp5.yB 7 (some .int))) (wks h (.initialized Cmp5.yN.cls :: Cmp5.site))
  have hc : CodL.tab.before a s = true := unparts (wk h (.code CodL.yN CodL.yB 2 (some .byte))) (wks h (.initialized CodL.yN.cls :: CodL.site))
  have q5 : ∀ w ∈ Cmp5.tab :: words, w.before a s = true := fun w hw => (List.mem_cons.mp hw).elim (fun e => e ▸ h5) (h w)
  have h3 : Cmp3.tab.before a s = true := unparts (wk q5 (.code Cmp3.yN Cmp3.yB 6 (some (.array .byte)))) (wks q5 (.initialized Cmp3.yN.cls :: Cmp3.site))
  have q3 : ∀ w ∈ Cmp3.tab :: CodL.tab :: words, w.before a s = true := fun w hw => (List.mem_cons.mp hw).elim (fun e => e ▸ h3) fun hw => (List.mem_cons.mp hw).elim (fun e => e ▸ hc) (h w)
  have h4 : New4.tab.before a s = true := unparts (wk q3 (.code New4.yN New4.yB 6 none)) (wks q3 (.initialized New4.yN.cls :: New4.site))
  have q4 : ∀ w ∈ New4.tab :: words, w.before a s = true := fun w hw => (List.mem_cons.mp hw).elim (fun e => e ▸ h4) (h w)
  exact unparts (wk q4 (.code New1.yN New1.yB 2 none)) (wks q4 (.initialized New1.yN.cls :: New1.site))
/-- the words ride from the start Z to the walk's own state -/
theorem moved {Z s : State} {a0 args : Array Value} (hZ : Z.Warmed39 s.vm) (hw : ∀ d ∈ words, d.before a0 Z = true) : ∀ d ∈ words, d.before args s = true := fun d hd => by
  have q := hw d hd
  have t : ∀ d ∈ words, d = .arrayClass .byte ∨ (d.onTables && d.keepsFace) = true := by decide +kernel
  rcases t d hd with rfl | t
  · exact RoadKit.mvA hZ q
  · exact RoadKit.mv hZ q t
/-- WHAT COMES BACK, over the tables of the start Z: h the heap at the call, h' behind it -/
def Q (Z : State) (x : Addr) (A : Cell) (h : Heap) (v : Option Value) (h' : Heap) (L : List Loc) : Prop := v = none ∧ (∀ y ∈ L, y.base = x) ∧ RoadKit.Keep h h' [x] ∧ h'.size = h.size + 1 ∧ RoadKit.Exa Z h' x ST ∧ RoadKit.Fld Z h' x ST "value" "[B" (.ref h.size) ∧ RoadKit.Fld Z h' x ST "coder" "B" (.int 0) ∧
  (∃ V : Cell, RoadKit.Arr Z h' h.size V .byte ∧ V.vm = .none ∧ Z.vm.findClass "[B" = some V.cls ∧ V.slots.size = A.slots.size ∧ ∀ j, j < A.slots.size → V.slots[j]? = some (.int (lo8 (cv A j)))) ∧
  ∀ (O n d : String) (w : Value), RoadKit.Fld Z h x O n d w → RoadKit.slotOf Z O n d ≠ RoadKit.slotOf Z ST "value" "[B" → RoadKit.slotOf Z O n d ≠ RoadKit.slotOf Z ST "coder" "B" → RoadKit.Fld Z h' x O n d w
/-- **new String(chars) AT A CALL, IN THE ROAD'S FORM**: for specialBack behind newO: x the fresh String, b the char[] with the cell A -/
theorem back {p : Program} {l : Launch} {e : Env} {R : Room} {s : State} {args : Array Value} {below : List Frame} {len W : Nat} {Z : State} {a0 : Array Value} {h : Heap} (hZ : Z.Warmed39 s.vm) (hw : ∀ d ∈ words, d.before a0 Z = true) {kI : Nat} (wi : (Jvm.Cond.instantiable ST kI).before a0 Z = true)
    {x b : Addr} {A : Cell} {z : Int32} {v0 c0 : Value} (E : RoadKit.Exa Z h x ST) (V : RoadKit.Fld Z h x ST "value" "[B" v0) (C : RoadKit.Fld Z h x ST "coder" "B" c0) (K : RoadKit.Arr Z h b A .char) (hty : Typed .char A) (S : RoadKit.Sta Z h ST "COMPACT_STRINGS" "Z" (.int z)) (hz : ¬ z = 0)
    (l0 : 0 < A.slots.size) (l2 : A.slots.size ≤ 536870912) (hp : ∀ i, i < A.slots.size → ¬ 255 < cv A i) (hfr : 4 ≤ R.frames) (hlo : W + 65 ≤ R.locals) :
    Back l R p e below s args New1.yN len W (fun P a => a = #[.ref x, .ref b] ∧ P.U.heap = h ∧ P.cells + 1 ≤ R.cells ∧ P.slots + A.slots.size ≤ R.slots)
      (fun P _ v B => ∃ L, Q Z x A h v B.U.heap L ∧ B.locs = P.locs ++ L ∧ B.cells = P.cells + 1 ∧ B.slots = P.slots + A.slots.size) := by
  intro m meth c P g ig mk a X hg hsize hdg hW hn hp'
  obtain ⟨rfl, rfl, r1, r2⟩ := hp'
  have al : Z.vm.Alike P.U.vm := hZ.alike.trans X.warmed.alike
  obtain ⟨D, cfV, kV, iV, fV, hD, gV, stV, knV, obV, asV, slV⟩ := id V
  obtain ⟨D', cfC, kC, iC, fC, hD', gC, stC, -, -, asC, slC⟩ := id C
  cases hD.symm.trans hD'
  obtain ⟨D2, kD, e1, e2, e3, e4, e5⟩ := id E
  cases hD.symm.trans e1
  obtain ⟨c2, k2, i1, i2, i3, -⟩ := Cond.instantiable_spec wi
  cases e2.symm.trans i1
  cases e3.symm.trans i2
  obtain ⟨kU, u1, u2⟩ := al.2.2 _ _ e3
  have hB : Blank ST x D P.U := ⟨hD, ⟨knV, fun q hq => by rw [hq] at obV; cases obV⟩, by rw [al.findClass]; exact e2, kU, u1, by rw [u2]; exact i3, by rw [u2]; exact e5 i3⟩
  have F1 : Found ST "value" "[B" fV P.U := ⟨SBG.found_only al ⟨cfV, kV, iV, gV⟩, stV⟩
  have F2 : Found ST "coder" "B" fC P.U := ⟨SBG.found_only al ⟨cfC, kC, iC, gC⟩, stC⟩
  have hA : Ch b A P.U := ⟨⟨K.1, State.isArrayOf_alike al K.2.1, K.2.2, by omega⟩, hty⟩
  have hS : StaticIs P.U ST "COMPACT_STRINGS" "Z" (.int z) := by
    obtain ⟨cfS, iS, kS, fS, st, cS, t1, t2, t3, t4, t5, t6, t7⟩ := S
    exact StaticIs.there (s := { Z with heap := P.U.heap }) ⟨cfS, iS, kS, fS, st, cS, t1, t2, t3, t4, t5, (fun q => by rw [q] at t6; cases t6), t7⟩ al rfl
  obtain ⟨v, B, X', ⟨⟨hv, E', V', q1, q2, q3, q4, q5, q6, q7, q8, q9, q10, q11⟩, hl, hc, hs⟩, st⟩ := New1.pays x D fV fC b A z (tab_of (moved hZ hw)) hfr hlo m meth c P g ig mk _ X hg hsize hdg hW hn ⟨r1, r2, rfl, hB, F1, F2, hA, hS, hz, l0, l2, hp⟩
  have al' : Z.vm.Alike B.U.vm := hZ.alike.trans X'.warmed.alike
  have hsz : E'.slots.size = D.slots.size := by
    obtain ⟨-, -, -, kB, w1, w2, w3⟩ := q1
    obtain ⟨kB', y1, y2⟩ := al'.2.2 _ _ e3
    rw [q2.2.1] at w1
    cases w1.symm.trans y1
    rw [w3, e5 i3, y2]
  refine ⟨v, B, X', ⟨_, ⟨hv, ?_, ⟨by omega, fun y cy hy hn' => q10 y cy (by simpa using hn') hy, fun y cy hy => ?_⟩, q11, ⟨E', _, q1.1, by rw [q2.2.1]; exact e2, by rw [q2.2.1]; exact e3, by rw [q2.1]; exact obV, fun _ => by rw [hsz]; exact e5 i3⟩,
    ⟨E', cfV, kV, iV, fV, q1.1, gV, stV, by rw [q2.1]; exact knV, by rw [q2.1]; exact obV, by rw [q2.2.1]; exact asV, q3⟩, ⟨E', cfC, kC, iC, fC, q1.1, gC, stC, by rw [q2.1]; exact knV, by rw [q2.1]; exact obV, by rw [q2.2.1]; exact asC, q4⟩,
    ⟨V', ⟨q5.1, State.isArrayOf_alike al'.symm q5.2.1, q5.2.2.1⟩, q6, by rw [← al'.findClass]; exact q7, q8, fun j hj => by have := q9 j hj; rwa [Nat.zero_add] at this⟩, fun O n d w F n1 n2 => ?_⟩, hl, hc, hs⟩, st⟩
  · intro y hy
    simp only [List.mem_cons, List.not_mem_nil, or_false] at hy
    rcases hy with rfl | rfl <;> rfl
  · by_cases q : y = x
    · subst q
      cases hD.symm.trans hy
      exact ⟨E', q1.1, q2.2.1, q2.1, hsz⟩
    · exact ⟨cy, q10 y cy q hy, rfl, rfl, rfl⟩
  · obtain ⟨D3, cf, k, i, f, g1, g2, g3, g4, g5, g6, g7⟩ := F
    cases hD.symm.trans g1
    simp only [RoadKit.slotOf, g2, gV, gC, Option.map_some, Option.getD_some] at n1 n2
    exact ⟨E', cf, k, i, f, q1.1, g2, g3, by rw [q2.1]; exact g4, by rw [q2.1]; exact g5, by rw [q2.2.1]; exact g6, by rw [q2.2.2 f.slot (by simp [n1, n2])]; exact g7⟩
end StrChars.Road
namespace StrChars.Road
open Jvm Sem ClassFile Op Lib Jvm.Stand Jvm.Free Jvm.Free.XT
/-- WHAT COMES BACK, the byte[] as a list of values -/
def QA (Z : State) (x : Addr) (zn : Int32) (cs : List Int32) (h : Heap) (v : Option Value) (h' : Heap) (L : List Loc) : Prop := v = none ∧ (∀ y ∈ L, y.base = x) ∧ RoadKit.Keep h h' [x] ∧ h'.size = h.size + 1 ∧ RoadKit.Exa Z h' x ST ∧ RoadKit.Fld Z h' x ST "value" "[B" (.ref h.size) ∧ RoadKit.Fld Z h' x ST "coder" "B" (.int 0) ∧
  (∃ kb, Z.vm.findClass "[B" = some kb ∧ RoadKit.Arv Z h' h.size kb .byte zn (cs.map fun c => .int (lo8 c)) (.int 0)) ∧
  ∀ (O n d : String) (w : Value), RoadKit.Fld Z h x O n d w → RoadKit.slotOf Z O n d ≠ RoadKit.slotOf Z ST "value" "[B" → RoadKit.slotOf Z O n d ≠ RoadKit.slotOf Z ST "coder" "B" → RoadKit.Fld Z h' x O n d w
/-- **new String(chars) AT A CALL, THE ARRAYS AS LISTS**: the char[] at b holds cs, not empty, no char above 255 -/
theorem backArv {p : Program} {l : Launch} {e : Env} {R : Room} {s : State} {args : Array Value} {below : List Frame} {len W : Nat} {Z : State} {a0 : Array Value} {h : Heap} (hZ : Z.Warmed39 s.vm) (hw : ∀ d ∈ words, d.before a0 Z = true) {kI : Nat} (wi : (Jvm.Cond.instantiable ST kI).before a0 Z = true)
    {x b : Addr} {k : ClassId} {zn z : Int32} {cs : List Int32} {dv v0 c0 : Value} (E : RoadKit.Exa Z h x ST) (V : RoadKit.Fld Z h x ST "value" "[B" v0) (C : RoadKit.Fld Z h x ST "coder" "B" c0) (K : RoadKit.Arv Z h b k .char zn (cs.map Value.int) dv) (S : RoadKit.Sta Z h ST "COMPACT_STRINGS" "Z" (.int z)) (hz : ¬ z = 0)
    (hlen : zn.toNatClampNeg = cs.length) (h0 : 0 < cs.length) (hbig : cs.length ≤ 536870912) (hall : ∀ c ∈ cs, ¬ 255 < c) (hfr : 4 ≤ R.frames) (hlo : W + 65 ≤ R.locals) :
    Back l R p e below s args New1.yN len W (fun P a => a = #[.ref x, .ref b] ∧ P.U.heap = h ∧ P.cells + 1 ≤ R.cells ∧ P.slots + cs.length ≤ R.slots)
      (fun P _ v B => ∃ L, QA Z x zn cs h v B.U.heap L ∧ B.locs = P.locs ++ L ∧ B.cells = P.cells + 1 ∧ B.slots = P.slots + cs.length) := by
  obtain ⟨A, K1, K2, K3, K4, K5, K6⟩ := K
  have e : A.slots.size = cs.length := K3.trans hlen
  have hat : ∀ (i : Nat) (hi : i < cs.length), A.slots[i]? = some (.int cs[i]) := fun i hi => by rw [K5 i (by omega)]; simp [List.getD_eq_getElem?_getD, hi]
  have hcv : ∀ (i : Nat) (hi : i < cs.length), cv A i = cs[i] := fun i hi => by unfold cv; rw [hat i hi]
  have hty : Typed .char A := fun i v hv => by
    have hi : i < A.slots.size := (Array.getElem?_eq_some_iff.mp hv).1
    have q := K5 i hi
    rw [hv] at q
    rw [Option.some.inj q]
    exact K6 i hi
  refine Back.mono (back hZ hw wi E V C K1 hty S hz (by omega) (by omega) (fun i hi => by rw [hcv i (by omega)]; exact hall _ (List.getElem_mem _)) hfr hlo) (fun P a hp => ⟨hp.1, hp.2.1, hp.2.2.1, by rw [e]; exact hp.2.2.2⟩) (fun P a v B hp hq => ?_)
  obtain ⟨L, ⟨q1, q2, q3, q4, q5, q6, q7, ⟨V', v1, v2, v3, v4, v5⟩, q9⟩, hl, hc, hs⟩ := hq
  refine ⟨L, ⟨q1, q2, q3, q4, q5, q6, q7, ⟨V'.cls, v3, V', v1, rfl, by rw [v4, e, hlen], K4, fun i hi => ?_, fun i hi => ?_⟩, q9⟩, hl, hc, by rw [hs, e]⟩
  · have hi' : i < cs.length := by omega
    rw [v5 i (by omega), hcv i hi']; simp [List.getD_eq_getElem?_getD, hi']
  · have hi' : i < cs.length := by omega
    simp only [List.getD_eq_getElem?_getD, List.getElem?_map, List.getElem?_eq_getElem hi', Option.map_some, Option.getD_some]
    exact fits_lo8 _
end StrChars.Road
namespace StrChars.Road
open Jvm Sem ClassFile Op Lib Jvm.Stand Jvm.Free Jvm.Free.XT
/-- WHAT COMES BACK, in the writer's own shape -/
def QV (Z : State) (x : Addr) (N : Int32) (bs : List Int32) (h : Heap) (n0 : Nat) (v : Option Value) (h' : Heap) (L : List Loc) : Prop := v = none ∧ RoadKit.Fr n0 L ∧ RoadKit.Keep h h' [x] ∧ RoadKit.Exa Z h' x ST ∧ RoadKit.Fld Z h' x ST "coder" "B" (.int 0) ∧
  ∃ (t : Addr) (kb : ClassId), n0 ≤ t ∧ h.size ≤ t ∧ ¬ t = x ∧ RoadKit.Fld Z h' x ST "value" "[B" (.ref t) ∧ RoadKit.Arv Z h' t kb .byte N (bs.map Value.int) (.int 0)
/-- **new String(chars) AT A CALL, FOR THE WRITER**: a char[] of n known ints, each 0 to 255 -/
theorem backV {p : Program} {l : Launch} {e : Env} {R : Room} {s : State} {args : Array Value} {below : List Frame} {len W : Nat} {Z : State} {a0 : Array Value} {h : Heap} (hZ : Z.Warmed39 s.vm) (hw : ∀ d ∈ words, d.before a0 Z = true) {kI : Nat} (wi : (Jvm.Cond.instantiable ST kI).before a0 Z = true)
    {x b : Addr} {kC : ClassId} {cs bs : List Int32} {d v0 c0 : Value} {z N : Int32} {n n0 : Nat} (hx0 : n0 ≤ x) (hh0 : n0 ≤ h.size) (E : RoadKit.Exa Z h x ST) (V : RoadKit.Fld Z h x ST "value" "[B" v0) (C : RoadKit.Fld Z h x ST "coder" "B" c0) (K : RoadKit.Arv Z h b kC .char N (cs.map Value.int) d) (S : RoadKit.Sta Z h ST "COMPACT_STRINGS" "Z" (.int z)) (hz : ¬ z = 0)
    (hn : cs.length = n) (hN : N = Int32.ofNat n) (l0 : 0 < n) (l2 : n ≤ 4000) (hp : ∀ c ∈ cs, ¬ c < 0 ∧ ¬ (255 : Int32) < c) (hb : bs = cs.map (fun c => c.toInt8.toInt32)) (hfr : 4 ≤ R.frames) (hlo : W + 65 ≤ R.locals) :
    Back l R p e below s args (⟨"java/lang/String", "<init>", "([C)V"⟩ : MethodName) len W (fun P a => a = #[.ref x, .ref b] ∧ P.U.heap = h ∧ P.cells + 1 ≤ R.cells ∧ P.slots + n ≤ R.slots)
      (fun P _ v B => ∃ L, QV Z x N bs h n0 v B.U.heap L ∧ B.locs = P.locs ++ L ∧ B.cells = P.cells + 1 ∧ B.slots = P.slots + n) := by
  subst hn hN hb
  refine Back.mono (backArv hZ hw wi E V C K S hz (n32 (by omega)) l0 (by omega) (fun c hc => (hp c hc).2) hfr hlo) (fun P a hp => hp) (fun P a v B hp hq => ?_)
  obtain ⟨L, ⟨q1, q2, q3, q4, q5, q6, q7, ⟨kb, v1, v2⟩, q9⟩, hl, hc, hs⟩ := hq
  exact ⟨L, ⟨q1, fun y hy => by rw [q2 y hy]; exact hx0, q3, q5, q7, h.size, kb, hh0, Nat.le_refl _, Nat.ne_of_gt E.lt, q6, by rw [List.map_map]; exact v2⟩, hl, hc, hs⟩
end StrChars.Road
namespace StrChars
open Jvm Sem ClassFile Op Lib Jvm.Stand Jvm.Free.XT Jvm.Free.ALB Jvm.Free.JM Jvm.Free
open Jvm.Lib.Cold (StaticIs)
def hi8 (x : Int32) : Int32 := lo8 (x >>> ((8 : Int32) &&& 31))
/-- what StringUTF16.getChar makes of two bytes -/
def pairCh (u v : Int32) : Int32 := (((u &&& 255) <<< ((0 : Int32) &&& 31)) ||| ((v &&& 255) <<< ((8 : Int32) &&& 31))).toUInt32.toUInt16.toUInt32.toInt32
theorem shr0 (c : Int32) : c >>> ((0 : Int32) &&& 31) = c := by
  have e : ((0 : Int32) &&& 31) = 0 := by decide
  rw [e]
  apply Int32.toBitVec_inj.mp
  rw [Int32.toBitVec_shiftRight]
  have e1 : ((0 : Int32).toBitVec.smod 32) = 0#32 := by decide
  rw [e1, BitVec.sshiftRight_eq']
  exact BitVec.sshiftRight_zero
theorem lo8_and (x : Int32) : (lo8 x &&& 255).toBitVec.toNat = x.toBitVec.toNat % 256 := by
  have h : (lo8 x).toBitVec = (x.toBitVec.signExtend 8).signExtend 32 := by rw [lo8, Int8.toBitVec_toInt32, Int32.toBitVec_toInt8]
  rw [Int32.toBitVec_and, BitVec.toNat_and, h]
  have e : ((x.toBitVec.signExtend 8).signExtend 32).toNat % 256 = x.toBitVec.toNat % 256 := by
    rw [BitVec.toNat_signExtend]
    have hlt := x.toBitVec.isLt
    simp only [BitVec.toNat_setWidth, BitVec.toNat_signExtend]
    split <;> split <;> omega
  rw [← e]
  exact Nat.and_two_pow_sub_one_eq_mod _ 8
theorem pair_says {c : Int32} (h0 : ¬ c < 0) (h1 : ¬ 65535 < c) : pairCh (lo8 c) (hi8 c) = c := by
  rw [Int32.lt_iff_toInt_lt] at h0 h1
  have e0 : (0 : Int32).toInt = 0 := rfl
  have e1 : (65535 : Int32).toInt = 65535 := rfl
  have hc : c.toInt = c.toBitVec.toNat := by
    have := c.toBitVec.isLt
    have e : c.toInt = c.toBitVec.toInt := rfl
    rw [e] at h0 h1
    rw [e]
    rw [BitVec.toInt_eq_toNat_cond] at h0 h1 ⊢
    split at h0 <;> split <;> omega
  have hn : c.toBitVec.toNat < 65536 := by omega
  have a1 := lo8_and c
  have a2 : (hi8 c &&& 255).toBitVec.toNat = c.toBitVec.toNat / 256 := by
    rw [hi8, lo8_and]
    have e : ((8 : Int32) &&& 31) = 8 := by decide
    rw [e, Int32.toBitVec_shiftRight]
    have e2 : ((8 : Int32).toBitVec.smod 32) = 8#32 := by decide
    rw [e2, BitVec.sshiftRight_eq', BitVec.toNat_sshiftRight_of_msb_false (by rw [BitVec.msb_eq_false_iff_two_mul_lt]; omega)]
    show c.toBitVec.toNat >>> 8 % 256 = _
    rw [Nat.shiftRight_eq_div_pow]
    omega
  unfold pairCh
  apply Int32.toBitVec_inj.mp
  apply BitVec.eq_of_toNat_eq
  have f0 : ((0 : Int32) &&& 31) = 0 := by decide
  have f8 : ((8 : Int32) &&& 31) = 8 := by decide
  rw [f0, f8]
  have g : (((lo8 c &&& 255) <<< (0 : Int32)) ||| ((hi8 c &&& 255) <<< (8 : Int32))).toBitVec.toNat = c.toBitVec.toNat := by
    rw [Int32.toBitVec_or, Int32.toBitVec_shiftLeft, Int32.toBitVec_shiftLeft]
    have s0 : ((0 : Int32).toBitVec.smod 32) = 0#32 := by decide
    have s8 : ((8 : Int32).toBitVec.smod 32) = 8#32 := by decide
    rw [s0, s8, BitVec.toNat_or]
    simp only [BitVec.shiftLeft_eq', BitVec.toNat_shiftLeft, a1, a2]
    show (c.toBitVec.toNat % 256) <<< 0 % 2 ^ 32 ||| (c.toBitVec.toNat / 256) <<< 8 % 2 ^ 32 = _
    rw [Nat.shiftLeft_zero, Nat.mod_eq_of_lt (show c.toBitVec.toNat % 256 < 2 ^ 32 by omega), Nat.mod_eq_of_lt (show (c.toBitVec.toNat / 256) <<< 8 < 2 ^ 32 by rw [Nat.shiftLeft_eq]; omega), Nat.or_comm, ← Nat.shiftLeft_add_eq_or_of_lt (by omega), Nat.shiftLeft_eq]
    omega
  show BitVec.toNat (((((lo8 c &&& 255) <<< (0 : Int32)) ||| ((hi8 c &&& 255) <<< (8 : Int32))).toBitVec.setWidth 16).setWidth 32) = _
  rw [BitVec.toNat_setWidth, BitVec.toNat_setWidth, g]
  omega
end StrChars
namespace StrChars
open Jvm Sem ClassFile Op Lib Jvm.Stand Jvm.Free.XT Jvm.Free.ALB Jvm.Free.JM Jvm.Free
open Jvm.Lib.Cold (StaticIs)
/-- charAt's cast of a byte read back -/
def chr8 (u : Int32) : Int32 := (u &&& 255).toUInt32.toUInt16.toUInt32.toInt32
theorem chr8_lo8 {c : Int32} (h0 : ¬ c < 0) (h1 : ¬ 255 < c) : chr8 (lo8 c) = c := by
  have t : ∀ k : Fin 256, (Int32.ofNat k.val).toUInt32.toUInt16.toUInt32.toInt32 = Int32.ofNat k.val := by decide +kernel
  unfold chr8
  rw [lo8_mask h0 h1]
  rw [Int32.lt_iff_toInt_lt] at h0 h1
  have e0 : (0 : Int32).toInt = 0 := rfl
  have e1 : (255 : Int32).toInt = 255 := rfl
  obtain ⟨k, hk⟩ : ∃ k : Nat, c.toInt = k := ⟨c.toInt.toNat, by omega⟩
  have hx : c = Int32.ofNat k := Int32.toInt_inj.mp (by rw [hk, Int32.toInt_ofNat_small (by omega)])
  rw [hx]
  exact t ⟨k, by omega⟩
end StrChars
namespace StrChars.Road
open Jvm Sem ClassFile Op Lib Jvm.Stand Jvm.Free Jvm.Free.XT
open Jvm.Lib.Cold (StaticIs)
/-- the bytes of the chars cs, low before high -/
def wideBytes : List Int32 → List Value
  | [] => []
  | c :: cs => .int (lo8 c) :: .int (hi8 c) :: wideBytes cs
/-- an array of N2 bytes vs codes the chars cs by the coder cd -/
def CodA (cs : List Int32) (cd N2 : Int32) (vs : List Value) : Prop := (cd = 0 ∧ N2 = Int32.ofNat cs.length ∧ vs = (cs.map fun c => Value.int (lo8 c)) ∧ ∀ c ∈ cs, ¬ 255 < c) ∨ (cd = 1 ∧ N2 = Int32.ofNat (2 * cs.length) ∧ vs = wideBytes cs ∧ ∃ c ∈ cs, 255 < c)
end StrChars.Road
namespace StrChars.Road
open Jvm Sem ClassFile Op Lib Jvm.Stand Jvm.Free Jvm.Free.XT
open Jvm.Lib.Cold (StaticIs)
/-- what backV says of its String, as the contracts of this text ask it: cs's low bytes, coder 0 -/
theorem codOf {cs : List Int32} {n : Nat} (hn : cs.length = n) (hb : ∀ c ∈ cs, ¬ 255 < c) : CodA cs 0 (Int32.ofNat n) ((cs.map lo8).map Value.int) := Or.inl ⟨rfl, by rw [hn], by simp [List.map_map, Function.comp_def], hb⟩
end StrChars.Road
end Jvm.Pilot.@@N@@
namespace Jvm.Pilot.@@N@@
open Jvm Jvm.ClassFile Sem Op Lib Jvm.Free Jvm.Stand Jvm.LawKit Jvm.RoadKit Bundle Jvm.Pilot.@@N@@.Jvm.D
namespace Own
open Jvm Jvm.ClassFile Sem Op Lib Jvm.Free Jvm.Stand Jvm.LawKit Jvm.RoadKit Bundle
/-- the run goes on from A to an end of which Q holds -/
def Goes (tb : Tables) (e : Env) (below : List Frame) (Q : Outcome → State → Prop) (A : State) : Prop := ∃ s₂ o, Steps tb e below A s₂ ∧ s₂.status = .running ∧ Ended s₂ below o ∧ Q o s₂
theorem Goes.via {tb : Tables} {e : Env} {below : List Frame} {Q : Outcome → State → Prop} {A B : State} (h : ∀ t, Steps tb e below B t → Steps tb e below A t) (g : Goes tb e below Q B) : Goes tb e below Q A := by
  obtain ⟨s₂, o, h1, h2⟩ := g
  exact ⟨s₂, o, h _ h1, h2⟩
theorem Goes.aft {tb : Tables} {e : Env} {below : List Frame} {Q : Outcome → State → Prop} {A B : State} (h : Steps tb e below A B) (g : Goes tb e below Q B) : Goes tb e below Q A := by
  obtain ⟨s₂, o, h1, h2⟩ := g
  exact ⟨s₂, o, h.trans h1, h2⟩
/-- what may be written: made since the law began (n0), booked for no literal; of SA0 (handed in) or made since this method began (k) -/
def Sfs (Z : State) (EL : List (String × Nat)) (vm : Vm) (h : Heap) (n0 k : Nat) (SA0 SA : List Addr) : Prop := ∀ x ∈ SA, Safe Z EL vm h x ∧ x < h.size ∧ n0 ≤ x ∧ (x ∈ SA0 ∨ k ≤ x)
/-- where a walk stands, all in one -/
def Wd (p : Program) (l : Launch) (e : Env) (R : Room) (s : State) (m : MethodId) (args : Array Value) (below : List Frame) (meth : Method) (c : Code)
    (Z : State) (a0 : Array Value) (EL : List (String × Nat)) (own : String) (n0 : Nat) (SA0 SA : List Addr) (T : State) (h : Heap) (cells slots : Nat) : Prop :=
  ∃ (vm0 : Vm) (locs : List Loc) (k0 : Nat), Stand p l e R (s.setVm vm0) m args below meth c T locs cells slots ∧ T.heap = h ∧ s.Since vm0 k0 ∧ k0 ≤ h.size ∧ Z.Warmed39 vm0 ∧ vm0.findClass own = some m.cls ∧
    CHr Z EL s.vm s.heap vm0 h ∧ Fr n0 locs ∧ Old Z n0 h ∧ Keep s.heap h SA0 ∧ Sfs Z EL vm0 h n0 s.heap.size SA0 SA ∧ EW Z a0 EL ∧ p.tables.exec = Jvm.exec
section Wide
variable {p : Program} {l : Launch} {e : Env} {R : Room} {s : State} {m : MethodId} {args : Array Value} {below : List Frame} {meth : Method} {c : Code}
variable {Z : State} {a0 : Array Value} {EL : List (String × Nat)} {own : String} {n0 : Nat} {SA0 SA : List Addr} {T : State} {h h' : Heap} {cells slots : Nat} {Q : Outcome → State → Prop} {pc : Nat} {Ls : Array Slot} {st : List Value} {vm0 vm1 : Vm} {a : Addr} {sl : Nat} {v : Value}
theorem Wd.exec (X : Wd p l e R s m args below meth c Z a0 EL own n0 SA0 SA T h cells slots) : p.tables.exec = Jvm.exec := by
  obtain ⟨_, _, _, -, -, -, -, -, -, -, -, -, -, -, -, q⟩ := X; exact q
theorem Wd.here (X : Wd p l e R s m args below meth c Z a0 EL own n0 SA0 SA T h cells slots) : At T m c below := by
  obtain ⟨_, _, _, Y, -⟩ := X; exact Y.here
theorem Wd.old (X : Wd p l e R s m args below meth c Z a0 EL own n0 SA0 SA T h cells slots) : Old Z n0 h := by
  obtain ⟨_, _, _, -, -, -, -, -, -, -, -, q, -⟩ := X; exact q
theorem Wd.kept (X : Wd p l e R s m args below meth c Z a0 EL own n0 SA0 SA T h cells slots) : Keep s.heap h SA0 := by
  obtain ⟨_, _, _, -, -, -, -, -, -, -, -, -, q, -⟩ := X; exact q
theorem Wd.al (X : Wd p l e R s m args below meth c Z a0 EL own n0 SA0 SA T h cells slots) : Z.vm.Alike T.vm := by
  obtain ⟨_, _, _, Y, -, -, -, hZ, -⟩ := X; exact (wtrans (s := s.setVm _) hZ Y.warmed).alike
theorem Wd.n0h (X : Wd p l e R s m args below meth c Z a0 EL own n0 SA0 SA T h cells slots) : n0 ≤ h.size := by
  obtain ⟨q1, q2, -⟩ := X.old; rw [← q1]; exact q2
theorem Wd.saf (X : Wd p l e R s m args below meth c Z a0 EL own n0 SA0 SA T h cells slots) {x : Addr} (q : x ∈ SA) : n0 ≤ x ∧ x < h.size := by
  obtain ⟨_, _, _, -, -, -, -, -, -, -, -, -, -, S, -⟩ := X; exact ⟨(S x q).2.2.1, (S x q).2.1⟩
theorem Sfs.go {k : Nat} (S : Sfs Z EL vm0 h n0 k SA0 SA) (A : CHr Z EL vm0 h vm1 h') : Sfs Z EL vm1 h' n0 k SA0 SA := fun x hx =>
  ⟨A.safe (S x hx).2.1 (S x hx).1, Nat.lt_of_lt_of_le (S x hx).2.1 A.2.1, (S x hx).2.2⟩
/-- fewer may be written -/
theorem Wd.less {SA' : List Addr} (X : Wd p l e R s m args below meth c Z a0 EL own n0 SA0 SA T h cells slots) (q : ∀ x ∈ SA', x ∈ SA) : Wd p l e R s m args below meth c Z a0 EL own n0 SA0 SA' T h cells slots := by
  obtain ⟨vm0, locs, k0, r1, r2, r3, r4, r5, r6, r7, r8, r9, r10, r11, r12, r13⟩ := X
  exact ⟨vm0, locs, k0, r1, r2, r3, r4, r5, r6, r7, r8, r9, r10, fun x hx => r11 x (q x hx), r12, r13⟩
theorem Wd.mono {cells' slots' : Nat} (X : Wd p l e R s m args below meth c Z a0 EL own n0 SA0 SA T h cells slots) (h1 : cells ≤ cells') (h2 : slots ≤ slots') : Wd p l e R s m args below meth c Z a0 EL own n0 SA0 SA T h cells' slots' := by
  obtain ⟨vm0, locs, k0, r1, r⟩ := X
  exact ⟨vm0, locs, k0, r1.mono h1 h2, r⟩
/-- new C -/
theorem Wd.new (X : Wd p l e R s m args below meth c Z a0 EL own n0 SA0 SA T h cells slots) {index n : Nat} {C : String} (w : (Cond.classLink own index C).before a0 Z = true) (wi : (Cond.instantiable C n).before a0 Z = true) (wz : (Cond.initialized C).before a0 Z = true)
    (hd : decode c.code pc = .ok (.new index, 3)) (hc : cells + 1 ≤ R.cells) (hl : slots + n ≤ R.slots)
    (k : ∀ (T' : State) (h' : Heap) (b : Addr), b = h.size → Wd p l e R s m args below meth c Z a0 EL own n0 SA0 (b :: SA) T' h' (cells + 1) (slots + n) → Ext h h' → Exa Z h' b C → (∀ {O nm d : String} {ty : FieldType}, Laid Z a0 C O nm d → parseFieldDescriptor d = some ty → Fld Z h' b O nm d (defaultValue ty)) →
      (∃ cell : Cell, h'[b]? = some cell ∧ cell.vm = .none ∧ cell.monitor = {}) → Goes p.tables e below Q (T'.setTop (mkF m (pc + 3) Ls (.ref b :: st)))) : Goes p.tables e below Q (T.setTop (mkF m pc Ls st)) := by
  obtain ⟨vm0, locs, k0, Y, eT, hS, hk, hZ, hown, hC, N, O, K, S, hEL, hx⟩ := X
  obtain ⟨T', h', Y', e', E, A, D, U, st'⟩ := newO Y hx hZ hown w wi wz eT (g := mkF m pc Ls st) rfl hd hc hl
  have A' := CHr.ext E hC.1
  refine Goes.via st' (k T' h' _ rfl ⟨vm0, locs, k0, Y', e', hS, Nat.le_trans hk E.1, hZ, hown, hC.trans A', N, O.ext E, K.ext E, fun x q => ?_, hEL, hx⟩ E A D U)
  rcases List.mem_cons.mp q with rfl | q
  · exact ⟨(Safe.new (Nat.le_refl _)).ext E hC.1, A.lt, by rw [← O.1]; exact O.2.1, Or.inr K.1⟩
  · exact S.go A' x q
/-- newarray of a primitive kind, its length known -/
theorem Wd.newarr (X : Wd p l e R s m args below meth c Z a0 EL own n0 SA0 SA T h cells slots) {aty : ArrayType} (w : (Cond.arrayClass (newarray.typeOf aty)).before a0 Z = true) {n : Int32} (hd : decode c.code pc = .ok (.newarray aty, 2)) (hn : ¬ n < 0) (cap : Nat) (hcap : n.toNatClampNeg ≤ cap) (hb : cap * 8 ≤ 536870912) (hc : cells + 1 ≤ R.cells) (hl : slots + cap ≤ R.slots)
    (k : ∀ (T' : State) (h' : Heap) (b : Addr) (kb : ClassId), b = h.size → Wd p l e R s m args below meth c Z a0 EL own n0 SA0 (b :: SA) T' h' (cells + 1) (slots + cap) → Ext h h' → Arv Z h' b kb (newarray.typeOf aty) n [] (defaultValue (newarray.typeOf aty)) → Goes p.tables e below Q (T'.setTop (mkF m (pc + 2) Ls (.ref b :: st)))) : Goes p.tables e below Q (T.setTop (mkF m pc Ls (.int n :: st))) := by
  obtain ⟨vm0, locs, k0, Y, eT, hS, hk, hZ, hown, hC, N, O, K, S, hEL, hx⟩ := X
  obtain ⟨T', h', kb, Y', e', E, A, st'⟩ := newP Y hx hZ w eT (g := mkF m pc Ls (.int n :: st)) rfl hd rfl hn hcap hb hc hl
  have A' := CHr.ext E hC.1
  refine Goes.via st' (k T' h' _ kb rfl ⟨vm0, locs, k0, Y', e', hS, Nat.le_trans hk E.1, hZ, hown, hC.trans A', N, O.ext E, K.ext E, fun x q => ?_, hEL, hx⟩ E (Arv.new A hn))
  rcases List.mem_cons.mp q with rfl | q
  · exact ⟨(Safe.new (Nat.le_refl _)).ext E hC.1, A.lt, by rw [← O.1]; exact O.2.1, Or.inr K.1⟩
  · exact S.go A' x q
theorem wrN (hC : CHr Z EL s.vm s.heap vm0 h) (O : Old Z n0 h) (K : Keep s.heap h SA0) (S : Sfs Z EL vm0 h n0 s.heap.size SA0 SA) (q : a ∈ SA) (W : Wr h h' a sl v) :
    CHr Z EL s.vm s.heap vm0 h' ∧ Old Z n0 h' ∧ Keep s.heap h' SA0 ∧ Sfs Z EL vm0 h' n0 s.heap.size SA0 SA ∧ n0 ≤ a ∧ h.size ≤ h'.size := by
  obtain ⟨q1, -, q3, q4⟩ := S a q
  have A := CHr.wr W q1 hC.1
  exact ⟨hC.trans A, O.wr W q3, K.wr W q4, S.go A, q3, A.2.1⟩
/-- putfield -/
theorem Wd.putf (X : Wd p l e R s m args below meth c Z a0 EL own n0 SA0 SA T h cells slots) {R0 O n d C : String} {index kk : Nat} {ty : FieldType} (w : (Cond.fieldLink own index R0 n d).before a0 Z = true) (via : Via Z R0 O n d) {v old : Value} (F : Fld Z h a O n d old) (E : Exa Z h a C)
    (L : (Cond.lays C O n d).before a0 Z = true ∨ ((Cond.laysFinal C O n d).before a0 Z = true ∧ own = O ∧ meth.name = "<init>")) (wi : (Cond.instantiable C kk).before a0 Z = true) (hty : parseFieldDescriptor d = some ty) (hn : narrow ty v = v) (hf : fits ty v = true) (hd : decode c.code pc = .ok (.putfield index, 3)) (q : a ∈ SA)
    (k : ∀ (T' : State) (h' : Heap), Wd p l e R s m args below meth c Z a0 EL own n0 SA0 SA T' h' cells slots → Wr h h' a (Jvm.RoadKit.slotOf Z O n d) v → Goes p.tables e below Q (T'.setTop (mkF m (pc + 3) Ls st))) : Goes p.tables e below Q (T.setTop (mkF m pc Ls (v :: .ref a :: st))) := by
  obtain ⟨vm0, locs, k0, Y, eT, hS, hk, hZ, hown, hC, N, O', K, S, hEL, hx⟩ := X
  obtain ⟨T', h', Y', e', W, st'⟩ := putF Y hx hZ hown (host := "") (Or.inl w) via eT F E L wi hty hn hf (g := mkF m pc Ls (v :: .ref a :: st)) rfl rfl hd
  obtain ⟨q1, q2, q3, q4, q5, q6⟩ := wrN hC O' K S q W
  exact Goes.via st' (k T' h' ⟨vm0, _, k0, Y', e', hS, Nat.le_trans hk q6, hZ, hown, q1, Fr.snoc Y' N q5, q2, q3, q4, hEL, hx⟩ W)
/-- getfield -/
theorem Wd.getf (X : Wd p l e R s m args below meth c Z a0 EL own n0 SA0 SA T h cells slots) {R0 O n d : String} {index : Nat} (w : (Cond.fieldLink own index R0 n d).before a0 Z = true) (via : Via Z R0 O n d) {v : Value} (F : Fld Z h a O n d v) (hd : decode c.code pc = .ok (.getfield index, 3))
    (k : ∀ T' : State, Wd p l e R s m args below meth c Z a0 EL own n0 SA0 SA T' h cells slots → Goes p.tables e below Q (T'.setTop (mkF m (pc + 3) Ls (v :: st)))) : Goes p.tables e below Q (T.setTop (mkF m pc Ls (.ref a :: st))) := by
  obtain ⟨vm0, locs, k0, Y, eT, r2, r3, r4, r5, r⟩ := X
  obtain ⟨T', Y', e', st'⟩ := getF Y r.2.2.2.2.2.2 r4 r5 (host := "") (Or.inl w) via eT F (g := mkF m pc Ls (.ref a :: st)) rfl rfl hd
  exact Goes.via st' (k T' ⟨vm0, locs, k0, Y', e', r2, r3, r4, r5, r⟩)
/-- getstatic -/
theorem Wd.gets (X : Wd p l e R s m args below meth c Z a0 EL own n0 SA0 SA T h cells slots) {R0 O n d : String} {index : Nat} (w : (Cond.fieldLink own index R0 n d).before a0 Z = true) (via : Via Z R0 O n d) {v : Value} (F : Sta Z h O n d v) (hd : decode c.code pc = .ok (.getstatic index, 3))
    (k : ∀ T' : State, Wd p l e R s m args below meth c Z a0 EL own n0 SA0 SA T' h cells slots → Goes p.tables e below Q (T'.setTop (mkF m (pc + 3) Ls (v :: st)))) : Goes p.tables e below Q (T.setTop (mkF m pc Ls st)) := by
  obtain ⟨vm0, locs, k0, Y, eT, r2, r3, r4, r5, r⟩ := X
  obtain ⟨T', Y', e', st'⟩ := getS (host := "") Y r.2.2.2.2.2.2 r4 r5 w via eT F (g := mkF m pc Ls st) rfl hd
  exact Goes.via st' (k T' ⟨vm0, locs, k0, Y', e', r2, r3, r4, r5, r⟩)
/-- Object.<init> -/
theorem Wd.inito (X : Wd p l e R s m args below meth c Z a0 EL own n0 SA0 SA T h cells slots) {idx : Nat} (w1 : (Cond.methodLink own idx Lib.objectInit).before a0 Z = true) (w2 : (Cond.instanceMethod Lib.objectInit).before a0 Z = true) (w3 : (Cond.code Lib.objectInit ⟨#[0xb1]⟩ 1 none).before a0 Z = true)
    (hd : decode c.code pc = .ok (.invokespecial idx, 3)) (hsize : Ls.size = c.maxLocals) (hf : 1 ≤ R.frames) (W : Nat) (hW : (st.map fun v => v.category).sum ≤ W) (hl : W + 12 ≤ R.locals)
    (k : ∀ T' : State, Wd p l e R s m args below meth c Z a0 EL own n0 SA0 SA T' h cells slots → Goes p.tables e below Q (T'.setTop (mkF m (pc + 3) Ls st))) : Goes p.tables e below Q (T.setTop (mkF m pc Ls (.ref a :: st))) := by
  obtain ⟨vm0, locs, k0, Y, eT, r2, r3, r4, r5, r⟩ := X
  obtain ⟨T', Y', e', st'⟩ := initO Y r.2.2.2.2.2.2 r4 r5 w1 w2 w3 eT (g := mkF m pc Ls (.ref a :: st)) rfl hsize rfl hd hf (W := W) (by show 2 * 0 + _ ≤ _; omega) hl
  exact Goes.via st' (k T' ⟨vm0, locs, k0, Y', e', r2, r3, r4, r5, r⟩)
/-- castore -/
theorem Wd.castore (X : Wd p l e R s m args below meth c Z a0 EL own n0 SA0 SA T h cells slots) {kb : ClassId} {n j x : Int32} {vs : List Value} {dv : Value} (V : Arv Z h a kb .char n vs dv) (hj : ¬ j < 0 ∧ j < n) (i : Nat) (hji : j.toNatClampNeg = i) (hi : i < vs.length) (q : a ∈ SA) (hd : decode c.code pc = .ok (.castore, 1))
    (k : ∀ (T' : State) (h' : Heap), Wd p l e R s m args below meth c Z a0 EL own n0 SA0 SA T' h' cells slots → Wr h h' a j.toNatClampNeg (.int (nar .char x)) → Arv Z h' a kb .char n (vs.set i (.int (nar .char x))) dv → Goes p.tables e below Q (T'.setTop (mkF m (pc + 1) Ls st))) : Goes p.tables e below Q (T.setTop (mkF m pc Ls (.int x :: .int j :: .ref a :: st))) := by
  obtain ⟨vm0, locs, k0, Y, eT, hS, hk, hZ, hown, hC, N, O', K, S, hEL, hx⟩ := X
  obtain ⟨cl, A, v1, v2, v3, v4, v5⟩ := V
  obtain ⟨T', h', Y', e', W, st'⟩ := stC Y hx hZ eT A (inb_of v2 hj) (g := mkF m pc Ls (.int x :: .int j :: .ref a :: st)) rfl rfl hd
  obtain ⟨q1, q2, q3, q4, q5, q6⟩ := wrN hC O' K S q W
  exact Goes.via st' (k T' h' ⟨vm0, _, k0, Y', e', hS, Nat.le_trans hk q6, hZ, hown, q1, Fr.snoc Y' N q5, q2, q3, q4, hEL, hx⟩ W (Arv.set A v1 v2 v3 v4 v5 (fits_nar_char _) W i hji hi))
/-- bastore into a byte[] -/
theorem Wd.bastore (X : Wd p l e R s m args below meth c Z a0 EL own n0 SA0 SA T h cells slots) {kb : ClassId} {n j x : Int32} {vs : List Value} {dv : Value} (V : Arv Z h a kb .byte n vs dv) (hj : ¬ j < 0 ∧ j < n) (i : Nat) (hji : j.toNatClampNeg = i) (hi : i < vs.length) (q : a ∈ SA) (hd : decode c.code pc = .ok (.bastore, 1))
    (k : ∀ (T' : State) (h' : Heap), Wd p l e R s m args below meth c Z a0 EL own n0 SA0 SA T' h' cells slots → Wr h h' a j.toNatClampNeg (.int (nar .byte x)) → Arv Z h' a kb .byte n (vs.set i (.int (nar .byte x))) dv → Goes p.tables e below Q (T'.setTop (mkF m (pc + 1) Ls st))) : Goes p.tables e below Q (T.setTop (mkF m pc Ls (.int x :: .int j :: .ref a :: st))) := by
  obtain ⟨vm0, locs, k0, Y, eT, hS, hk, hZ, hown, hC, N, O', K, S, hEL, hx⟩ := X
  obtain ⟨cl, A, v1, v2, v3, v4, v5⟩ := V
  obtain ⟨T', h', Y', e', W, st'⟩ := stB Y hx hZ eT A (inb_of v2 hj) (g := mkF m pc Ls (.int x :: .int j :: .ref a :: st)) rfl rfl hd
  obtain ⟨q1, q2, q3, q4, q5, q6⟩ := wrN hC O' K S q W
  exact Goes.via st' (k T' h' ⟨vm0, _, k0, Y', e', hS, Nat.le_trans hk q6, hZ, hown, q1, Fr.snoc Y' N q5, q2, q3, q4, hEL, hx⟩ W (Arv.set A v1 v2 v3 v4 v5 (fits_nar_byte _) W i hji hi))
/-- caload -/
theorem Wd.caload (X : Wd p l e R s m args below meth c Z a0 EL own n0 SA0 SA T h cells slots) {kb : ClassId} {n j : Int32} {vs : List Value} {dv v : Value} (V : Arv Z h a kb .char n vs dv) (hj : ¬ j < 0 ∧ j < n) (hv : vs.getD j.toNatClampNeg dv = v) (hd : decode c.code pc = .ok (.caload, 1))
    (g : Goes p.tables e below Q (T.setTop (mkF m (pc + 1) Ls (v :: st)))) : Goes p.tables e below Q (T.setTop (mkF m pc Ls (.int j :: .ref a :: st))) := by
  obtain ⟨vm0, locs, k0, Y, eT, r2, r3, r4, r5, r⟩ := X
  obtain ⟨cl, A, v1, v2, v3, v4, v5⟩ := V
  exact Goes.via (fun t => Y.caload r.2.2.2.2.2.2 (by rw [eT]; exact A.1) (State.isArrayOf_alike r4.alike A.2.1) A.2.2 (inb_of v2 hj) (v4.at (inb_of v2 hj) hv) (g := mkF m pc Ls (.int j :: .ref a :: st)) rfl rfl hd t) g
/-- arraylength -/
theorem Wd.alen (X : Wd p l e R s m args below meth c Z a0 EL own n0 SA0 SA T h cells slots) {kb : ClassId} {n : Int32} {vs : List Value} {dv : Value} {ty : FieldType} (V : Arv Z h a kb ty n vs dv) (hd : decode c.code pc = .ok (.arraylength, 1))
    (g : Goes p.tables e below Q (T.setTop (mkF m (pc + 1) Ls (.int n :: st)))) : Goes p.tables e below Q (T.setTop (mkF m pc Ls (.ref a :: st))) := by
  obtain ⟨vm0, locs, k0, Y, eT, r2, r3, r4, r5, r⟩ := X
  obtain ⟨cl, A, v1, v2, v3, v4, v5⟩ := V
  rw [← len_of v2 v3] at g
  exact Goes.via (fun t => Y.arraylength r.2.2.2.2.2.2 (by rw [eT]; exact A.1) (State.isArrayOf_alike r4.alike A.2.1) (g := mkF m pc Ls (.ref a :: st)) rfl rfl hd t) g
/-- ldc of a String constant of EL, read -/
theorem Wd.ldcS (X : Wd p l e R s m args below meth c Z a0 EL own n0 SA0 SA T h cells slots) {index : Nat} {text : String} (w : (Cond.stringLink own index text).before a0 Z = true) (wS : ∀ a ∈ Bundle.stringAtoms, a.before a0 Z = true) (hmem : (own, index) ∈ EL) {vs : List Value} {z : Int32}
    (ht : (∀ c ∈ text.toList, c.toNat < 256) ∧ text.toList.map (fun c => Value.int (Jvm.Lit.byteI c.toNat.toUInt16)) = vs) (hz : ¬ z < 0) (hl : z.toNatClampNeg = vs.length) (hd : decode c.code pc = .ok (.ldc index, 2)) (n : Nat) (hn : 4 * text.toList.length ≤ n) (hbig : n ≤ 536870912) (hc : cells + 2 ≤ R.cells) (hl' : slots + (n + 4) ≤ R.slots)
    (k : ∀ (T' : State) (h' : Heap) (a b : Addr) (kb : ClassId), Wd p l e R s m args below meth c Z a0 EL own n0 SA0 SA T' h' (cells + 2) (slots + (n + 4)) → Ext h h' → Exa Z h' a "java/lang/String" → Fld Z h' a "java/lang/String" "coder" "B" (.int 0) → Fld Z h' a "java/lang/String" "value" "[B" (.ref b) → Arv Z h' b kb .byte z vs (.int 0) → (∀ x ∈ SA, x ≠ a ∧ x ≠ b) →
      Goes p.tables e below Q (T'.setTop (mkF m (pc + 2) Ls (.ref a :: st)))) : Goes p.tables e below Q (T.setTop (mkF m pc Ls st)) := by
  obtain ⟨vm0, locs, k0, Y, eT, hS, hk, hZ, hown, hC, N, O, K, S, hEL, hx⟩ := X
  obtain ⟨a, T', h', k1, b, kb, Y', e', E, hS', hk', hZ', hown', A1, A2, A3, A4, -, -, A5, -, A6, st'⟩ := ldcCH Y hx hZ hown w wS eT hS hk hEL hmem hC.1 ht hz hl (g := mkF m pc Ls st) rfl hd hn hbig hc hl'
  have S' := S.go A5
  exact Goes.via st' (k T' h' a b kb ⟨T'.vm, locs, k1, Y', e', hS', hk', hZ', hown', hC.trans A5, N, O.ext E, K.ext E, S', hEL, hx⟩ E A1 A2 A3 A4 fun x q => A6 x (S' x q).1)
/-- ldc of any String constant, not read -/
theorem Wd.ldcO (X : Wd p l e R s m args below meth c Z a0 EL own n0 SA0 SA T h cells slots) {index : Nat} {text : String} (w : (Cond.stringLink own index text).before a0 Z = true) (wS : ∀ a ∈ Bundle.stringAtoms, a.before a0 Z = true)
    (hd : decode c.code pc = .ok (.ldc index, 2)) (n : Nat) (hn : 4 * text.toList.length ≤ n) (hbig : n ≤ 536870912) (hc : cells + 2 ≤ R.cells) (hl' : slots + (n + 4) ≤ R.slots)
    (k : ∀ (T' : State) (h' : Heap) (a : Addr), Wd p l e R s m args below meth c Z a0 EL own n0 SA0 SA T' h' (cells + 2) (slots + (n + 4)) → Ext h h' →
      Goes p.tables e below Q (T'.setTop (mkF m (pc + 2) Ls (.ref a :: st)))) : Goes p.tables e below Q (T.setTop (mkF m pc Ls st)) := by
  obtain ⟨vm0, locs, k0, Y, eT, hS, hk, hZ, hown, hC, N, O, K, S, hEL, hx⟩ := X
  obtain ⟨a, T', h', k1, Y', e', E, hS', hk', hZ', hown', A5, -, st'⟩ := ldcOH Y hx hZ hown w wS eT hS hk hEL hC.1 (g := mkF m pc Ls st) rfl hd hn hbig hc hl'
  exact Goes.via st' (k T' h' a ⟨T'.vm, locs, k1, Y', e', hS', hk', hZ', hown', hC.trans A5, N, O.ext E, K.ext E, S.go A5, hEL, hx⟩ E)
/-- ldc of an int -/
theorem Wd.ldcI (X : Wd p l e R s m args below meth c Z a0 EL own n0 SA0 SA T h cells slots) {index : Nat} {v : Int32} (w : (Cond.constant own index v).before a0 Z = true) (hd : decode c.code pc = .ok (.ldc index, 2))
    (g : Goes p.tables e below Q (T.setTop (mkF m (pc + 2) Ls (.int v :: st)))) : Goes p.tables e below Q (T.setTop (mkF m pc Ls st)) := by
  obtain ⟨vm0, locs, k0, Y, eT, r2, r3, r4, r5, r⟩ := X
  exact Goes.via (fun t => Y.ldcInt r.2.2.2.2.2.2 r5 (mvT (s := s.setVm vm0) r4 w) (g := mkF m pc Ls st) rfl hd t) g
end Wide
end Own
namespace Own
open Jvm Jvm.ClassFile Sem Op Lib Jvm.Free Jvm.Stand Jvm.LawKit Jvm.RoadKit Bundle
/-- a method's contract: handed as' in the heap h0, it may write SA0 and what it makes; at its end Q0 holds -/
def Ct (l : Launch) (Z : State) (EL : List (String × Nat)) (ws : List Jvm.Cond) (y : MethodName) (bytes : ByteArray) (maxL : Nat) (ret : Option FieldType) (rm : Room) (as' : Array Value) (h0 : Heap) (n0 : Nat) (SA0 : List Addr) (Q0 : Option Value → Heap → Prop) : Prop :=
  MetFree l y (head1 (Jvm.Cond.code y bytes maxL ret :: ws) rm) (fun a U => a = as' ∧ Z.Warmed39 U.vm ∧ U.heap = h0 ∧ CHv Z EL U.vm h0 ∧ Old Z n0 h0 ∧ ∀ x ∈ SA0, Safe Z EL U.vm h0 x ∧ x < h0.size ∧ n0 ≤ x) (fun _ _ _ _ _ => True)
    (fun _ U o U' => ∃ v L, o = .returned v ∧ (Q0 v U'.heap ∧ Fr n0 L ∧ Old Z n0 U'.heap ∧ Keep h0 U'.heap SA0) ∧ CHr Z EL U.vm U.heap U'.vm U'.heap ∧ ReturnedEndW U o U' L rm.cells rm.slots)
/-- what an end must bring -/
def Endq (Z : State) (EL : List (String × Nat)) (s : State) (n0 : Nat) (SA0 : List Addr) (rm : Room) (Q0 : Option Value → Heap → Prop) (o : Outcome) (U' : State) : Prop :=
  ∃ v L, o = .returned v ∧ (Q0 v U'.heap ∧ Fr n0 L ∧ Old Z n0 U'.heap ∧ Keep s.heap U'.heap SA0) ∧ CHr Z EL s.vm s.heap U'.vm U'.heap ∧ ReturnedEndW s o U' L rm.cells rm.slots
section Wide
variable {p : Program} {l : Launch} {e : Env} {R : Room} {s : State} {m : MethodId} {args : Array Value} {below : List Frame} {meth : Method} {c : Code}
variable {Z : State} {a0 : Array Value} {EL : List (String × Nat)} {own : String} {n0 : Nat} {SA0 SA SA' : List Addr} {T : State} {h h' h0 : Heap} {cells slots : Nat} {Q : Outcome → State → Prop} {pc : Nat} {Ls : Array Slot} {st : List Value} {vm0 vm1 : Vm} {a : Addr} {sl : Nat} {v : Value}
variable {ws : List Jvm.Cond} {y z : MethodName} {bytes : ByteArray} {maxL : Nat} {ret : Option FieldType} {rm : Room} {as' : Array Value} {Q0 : Option Value → Heap → Prop}
theorem Ct.enter (pn : plainFor y = true) (hEL : EW Z a0 EL)
    (body : ∀ (p : Program) (e : Env) (s : State) (m : MethodId) (below : List Frame) (meth : Method) (c : Code) (T : State), c.code = bytes → c.maxLocals = maxL → meth.sig.returnType = ret → meth.locks = false → meth.name = y.name → s.heap = h0 → Wd p l e rm s m as' below meth c Z a0 EL y.cls n0 SA0 SA0 T h0 0 0 →
      Goes p.tables e below (Endq Z EL s n0 SA0 rm Q0) (T.setTop (entryFrame m as' maxL))) : Ct l Z EL ws y bytes maxL ret rm as' h0 n0 SA0 Q0 := by
  refine MetFree.of_bodySF pn hisR ?_
  intro p e s m args below meth c s₁ Bd hml0 hP hK
  obtain ⟨rfl, hZ, rfl, H, O, S⟩ := hP
  have Y : Stand p l e rm s m args below meth c s₁ [] 0 0 := Stand.of_body Bd
  have e0 : s₁.heap = s.heap := by rw [Bd.state]; rfl
  obtain ⟨s₂, o, h1, h2, h3, v, L, h4, h5, h6, h7⟩ := body p e s m below meth c s₁ Bd.bytes hml0 Bd.returns (BodyLoose.notSynchronized Bd) (name_of_methodNamed Bd.named Bd.method).1 rfl
    ⟨s.vm, [], 0, Y, e0, (State.WarmedH.refl s).since _, Nat.zero_le _, hZ, findClass_of_methodNamed Bd.named, CHr.refl H, Fr.nil _, O, Keep.refl _ _, fun x q => ⟨(S x q).1, (S x q).2.1, (S x q).2.2, Or.inl q⟩, hEL, Bd.exec⟩
  exact ⟨s₂, o, h1, h2, h3, v, L, h4, h5, h6, h7⟩
theorem Ct.back {len W : Nat} (ct : Ct l Z EL [] y bytes maxL ret rm as' h n0 SA0 Q0) (hZ : Z.Warmed39 vm0) (wc : (Jvm.Cond.code y bytes maxL ret).before a0 Z = true) (wz : (Jvm.Cond.initialized y.cls).before a0 Z = true) (hf : rm.frames + 1 ≤ R.frames) (hl : W + (maxL + 11) + rm.locals ≤ R.locals) (hEL : EW Z a0 EL) (H : CHv Z EL vm0 h) (O : Old Z n0 h)
    (S : ∀ x ∈ SA0, Safe Z EL vm0 h x ∧ x < h.size ∧ n0 ≤ x) :
    BackS l R p e below (s.setVm vm0) args y len W (fun A a => a = as' ∧ A.U.heap = h ∧ A.cells + rm.cells ≤ R.cells ∧ A.slots + rm.slots ≤ R.slots)
      (fun A _ v B => ∃ L, (Q0 v B.U.heap ∧ Fr n0 L ∧ Old Z n0 B.U.heap ∧ Keep h B.U.heap SA0) ∧ B.locs = A.locs ++ L ∧ B.cells = A.cells + rm.cells ∧ B.slots = A.slots + rm.slots ∧ CHr Z EL vm0 h B.U.vm B.U.heap) :=
  BackS.of_freeW (bytes := bytes) (maxL := maxL) (ret := ret) (E := fun _ first o t L k n => k = rm.cells ∧ n = rm.slots ∧ (∃ v, o = .returned v ∧ (Q0 v t.heap ∧ Fr n0 L ∧ Old Z n0 t.heap ∧ Keep h t.heap SA0)) ∧ CHr Z EL first.vm first.heap t.vm t.heap) ct hf hl
    (fun m meth c A a Y hp => have hU : Z.Warmed39 A.U.vm := wtrans (s := s.setVm vm0) hZ Y.warmed
      ⟨by show (Jvm.Cond.and _ .tt).before a A.U = true; rw [Cond.before_and, mv hU wc]; rfl, mv hU wc, mv hU wz, hp.2.2.1, hp.2.2.2⟩)
    (fun m meth c A a g mk Y hp => ⟨hp.1, wtrans (s := s.setVm vm0) hZ Y.warmed, hp.2.1, (CHv.at Y hZ hEL H).1, O, fun x q => ⟨(CHv.at Y hZ hEL H).safe (S x q).2.1 (S x q).1, (S x q).2⟩⟩) (fun _ _ _ _ _ _ _ _ _ => trivial)
    (fun _ _ _ _ ⟨v, L, h1, h2, h3, h4⟩ => ⟨L, _, _, h4, rfl, rfl, ⟨v, h1, h2⟩, h3⟩)
    (fun m meth c A a g mk v t L k n Y hp _ _ ⟨e1, e2, ⟨v', e3, e4⟩, e5⟩ => by
      cases e3; subst e1 e2
      refine ⟨L, e4, rfl, rfl, rfl, (CHv.at Y hZ hEL H).trans ?_⟩
      rw [← hp.2.1]; exact e5)
/-- what stands behind a call by its contract -/
theorem callN {T' : State} {L : List Loc} {k0 cells' slots' : Nat} (hS : s.Since vm0 k0) (hk : k0 ≤ h.size) (hZ : Z.Warmed39 vm0) (hown : vm0.findClass own = some m.cls) (hC : CHr Z EL s.vm s.heap vm0 h) {locs : List Loc} (N : Fr n0 locs) (K : Keep s.heap h SA0) (S : Sfs Z EL vm0 h n0 s.heap.size SA0 SA) (hEL : EW Z a0 EL) (hx : p.tables.exec = Jvm.exec)
    (Y : Stand p l e R ((s.setVm vm0).setVm T'.vm) m args below meth c T' (locs ++ L) cells' slots') (h2 : (s.setVm vm0).Since T'.vm T'.heap.size) (hg : h.size ≤ T'.heap.size) (hL : Fr n0 L) (O' : Old Z n0 T'.heap) (K' : Keep h T'.heap SA') (hsub : ∀ x ∈ SA', x ∈ SA) (A : CHr Z EL vm0 h T'.vm T'.heap) :
    Wd p l e R s m args below meth c Z a0 EL own n0 SA0 SA T' T'.heap cells' slots' := by
  obtain ⟨r1, r2, r3, r4⟩ := rebS (own := own) hS hk Y h2 hg hZ hown
  exact ⟨T'.vm, _, _, r1, rfl, r2, Nat.le_refl _, r3, r4, hC.trans A, N.app hL, O', K.trans K' (fun x q => (S x (hsub x q)).2.2.2), S.go A, hEL, hx⟩
/-- invokestatic by its contract -/
theorem Wd.calls (X : Wd p l e R s m args below meth c Z a0 EL own n0 SA0 SA T h cells slots) (argsL rest : List Value) {idx : Nat} (ct : Ct l Z EL [] y bytes maxL ret rm argsL.toArray h n0 SA' Q0) (w1 : (Jvm.Cond.methodLink own idx y).before a0 Z = true) (w2 : (Jvm.Cond.static y).before a0 Z = true) (w3 : (Jvm.Cond.initialized y.cls).before a0 Z = true) (w4 : (Jvm.Cond.code y bytes maxL ret).before a0 Z = true)
    (hy : y.cls ≠ "java/lang/invoke/MethodHandle" ∧ y.cls ≠ "java/lang/invoke/VarHandle") (hsub : ∀ x ∈ SA', x ∈ SA) (hf : rm.frames + 1 ≤ R.frames) (W : Nat) (hl : W + (maxL + 11) + rm.locals ≤ R.locals) (hcl : cells + rm.cells ≤ R.cells) (hsl : slots + rm.slots ≤ R.slots)
    (hlen : ∀ sig, parseMethodDescriptor y.desc = some sig → argsL.length = sig.parameters.length) (hst : st = argsL.reverse ++ rest) (hW : (rest.map fun v => v.category).sum ≤ W) (hsize : Ls.size = c.maxLocals) (hd : decode c.code pc = .ok (.invokestatic idx, 3))
    (k : ∀ (T' : State) (h' : Heap) (v : Option Value), Wd p l e R s m args below meth c Z a0 EL own n0 SA0 SA T' h' (cells + rm.cells) (slots + rm.slots) → Keep h h' SA' → Q0 v h' → Goes p.tables e below Q (T'.setTop (mkF m (pc + 3) Ls (v.toList ++ rest)))) : Goes p.tables e below Q (T.setTop (mkF m pc Ls st)) := by
  obtain ⟨vm0, locs, k0, Y, eT, hS, hk, hZ, hown, hC, N, O, K, S, hEL, hx⟩ := X
  obtain ⟨v, vm1, ⟨T', L', c', s'⟩, -, Y', h2, hg, ⟨L, ⟨q0, q1, q2, q3⟩, rfl, rfl, rfl, A⟩, st'⟩ := callSS Y hx hown (mvT hZ w1) (mvT hZ w2) (mvT hZ w3) (mvT hZ w4) hy (ct.back (a0 := a0) (W := W) (len := 3) hZ w4 w3 hf hl hEL hC.1 O fun x q => ⟨(S x (hsub x q)).1, (S x (hsub x q)).2.1, (S x (hsub x q)).2.2.1⟩)
    (g := mkF m pc Ls st) rfl hsize (argsL := argsL) (rest := rest) hlen hst (by show 2 * 0 + _ ≤ _; omega) hd (fun _ _ => ⟨rfl, eT, hcl, hsl⟩)
  exact Goes.aft st' (k T' T'.heap v (callN hS hk hZ hown hC N K S hEL hx Y' h2 (by rw [← eT]; exact hg) q1 q2 q3 hsub A) q3 q0)
/-- invokespecial of a constructor by its contract -/
theorem Wd.callc (X : Wd p l e R s m args below meth c Z a0 EL own n0 SA0 SA T h cells slots) (argsL rest : List Value) {idx : Nat} (ct : Ct l Z EL [] y bytes maxL none rm (.ref a :: argsL).toArray h n0 SA' Q0) (hy1 : y.name = "<init>") (w1 : (Jvm.Cond.methodLink own idx y).before a0 Z = true) (w2 : (Jvm.Cond.instanceMethod y).before a0 Z = true) (w3 : (Jvm.Cond.initialized y.cls).before a0 Z = true) (w4 : (Jvm.Cond.code y bytes maxL none).before a0 Z = true)
    (hy : y.cls ≠ "java/lang/invoke/MethodHandle" ∧ y.cls ≠ "java/lang/invoke/VarHandle") (hsub : ∀ x ∈ SA', x ∈ SA) (hf : rm.frames + 1 ≤ R.frames) (W : Nat) (hl : W + (maxL + 11) + rm.locals ≤ R.locals) (hcl : cells + rm.cells ≤ R.cells) (hsl : slots + rm.slots ≤ R.slots)
    (hlen : ∀ sig, parseMethodDescriptor y.desc = some sig → argsL.length = sig.parameters.length) (hst : st = argsL.reverse ++ .ref a :: rest) (hW : (rest.map fun v => v.category).sum ≤ W) (hsize : Ls.size = c.maxLocals) (hd : decode c.code pc = .ok (.invokespecial idx, 3))
    (k : ∀ (T' : State) (h' : Heap) (v : Option Value), Wd p l e R s m args below meth c Z a0 EL own n0 SA0 SA T' h' (cells + rm.cells) (slots + rm.slots) → Keep h h' SA' → Q0 v h' → Goes p.tables e below Q (T'.setTop (mkF m (pc + 3) Ls (v.toList ++ rest)))) : Goes p.tables e below Q (T.setTop (mkF m pc Ls st)) := by
  obtain ⟨vm0, locs, k0, Y, eT, hS, hk, hZ, hown, hC, N, O, K, S, hEL, hx⟩ := X
  obtain ⟨v, vm1, ⟨T', L', c', s'⟩, -, Y', h2, hg, ⟨L, ⟨q0, q1, q2, q3⟩, rfl, rfl, rfl, A⟩, st'⟩ := Y.specialBackS hx hy1 hown (mvT hZ w1) (mvT hZ w2) (mvT hZ w4) hy (ct.back (a0 := a0) (W := W) (len := 3) hZ w4 w3 hf hl hEL hC.1 O fun x q => ⟨(S x (hsub x q)).1, (S x (hsub x q)).2.1, (S x (hsub x q)).2.2.1⟩)
    (g := mkF m pc Ls st) rfl hsize (Steps.refl _) (a := a) (argsL := argsL) (rest := rest) hlen hst (by show 2 * 0 + _ ≤ _; omega) hd (fun _ _ => ⟨rfl, eT, hcl, hsl⟩)
  exact Goes.aft st' (k T' T'.heap v (callN hS hk hZ hown hC N K S hEL hx Y' h2 (by rw [← eT]; exact hg) q1 q2 q3 hsub A) q3 q0)
/-- invokevirtual by its contract: resolved y, selected z on an object that is exactly a C -/
theorem Wd.callv (X : Wd p l e R s m args below meth c Z a0 EL own n0 SA0 SA T h cells slots) (argsL rest : List Value) {idx : Nat} {C : String} (ct : Ct l Z EL [] y bytes maxL ret rm (.ref a :: argsL).toArray h n0 SA' Q0) (E : Exa Z h a C) (w1 : (Jvm.Cond.methodLink own idx y).before a0 Z = true) (w2 : (Jvm.Cond.declares y).before a0 Z = true) (w3 : (Jvm.Cond.selects C y y).before a0 Z = true) (w4 : (Jvm.Cond.instanceMethod y).before a0 Z = true)
    (w5 : (Jvm.Cond.initialized y.cls).before a0 Z = true) (w6 : (Jvm.Cond.code y bytes maxL ret).before a0 Z = true)
    (hy : y.cls ≠ "java/lang/invoke/MethodHandle" ∧ y.cls ≠ "java/lang/invoke/VarHandle") (hsub : ∀ x ∈ SA', x ∈ SA) (hf : rm.frames + 1 ≤ R.frames) (W : Nat) (hl : W + (maxL + 11) + rm.locals ≤ R.locals) (hcl : cells + rm.cells ≤ R.cells) (hsl : slots + rm.slots ≤ R.slots)
    (hlen : ∀ sig, parseMethodDescriptor y.desc = some sig → argsL.length = sig.parameters.length) (hst : st = argsL.reverse ++ .ref a :: rest) (hW : (rest.map fun v => v.category).sum ≤ W) (hsize : Ls.size = c.maxLocals) (hd : decode c.code pc = .ok (.invokevirtual idx, 3))
    (k : ∀ (T' : State) (h' : Heap) (v : Option Value), Wd p l e R s m args below meth c Z a0 EL own n0 SA0 SA T' h' (cells + rm.cells) (slots + rm.slots) → Keep h h' SA' → Q0 v h' → Goes p.tables e below Q (T'.setTop (mkF m (pc + 3) Ls (v.toList ++ rest)))) : Goes p.tables e below Q (T.setTop (mkF m pc Ls st)) := by
  obtain ⟨vm0, locs, k0, Y, eT, hS, hk, hZ, hown, hC, N, O, K, S, hEL, hx⟩ := X
  obtain ⟨cB, kB, u1, -, u3⟩ := isOf (s := s.setVm vm0) hZ eT E
  obtain ⟨v, vm1, ⟨T', L', c', s'⟩, -, Y', h2, hg, ⟨L, ⟨q0, q1, q2, q3⟩, rfl, rfl, rfl, A⟩, st'⟩ := Y.virtualBackS hx hown (mvT hZ w1) (mvT hZ w2) (notFace_of_selects (args := #[]) (mvT hZ w3)) (mvT hZ w3) (mvT hZ w4) hy (ct.back (a0 := a0) (W := W) (len := 3) hZ w6 w5 hf hl hEL hC.1 O fun x q => ⟨(S x (hsub x q)).1, (S x (hsub x q)).2.1, (S x (hsub x q)).2.2.1⟩)
    u1 u3 (g := mkF m pc Ls st) rfl hsize (Steps.refl _) (argsL := argsL) (rest := rest) hlen hst (by show 2 * 0 + _ ≤ _; omega) hd (fun _ _ => ⟨rfl, eT, hcl, hsl⟩)
  exact Goes.aft st' (k T' T'.heap v (callN hS hk hZ hown hC N K S hEL hx Y' h2 (by rw [← eT]; exact hg) q1 q2 q3 hsub A) q3 q0)
/-- what stands behind a call by a law of the narrow kind (nothing interned), that wrote ws -/
theorem backN {T' : State} {L : List Loc} {k0 cells' slots' : Nat} (hS : s.Since vm0 k0) (hk : k0 ≤ h.size) (hZ : Z.Warmed39 vm0) (hown : vm0.findClass own = some m.cls) (hC : CHr Z EL s.vm s.heap vm0 h) {locs : List Loc} (N : Fr n0 locs) (O : Old Z n0 h) (K : Keep s.heap h SA0) (S : Sfs Z EL vm0 h n0 s.heap.size SA0 SA) (hEL : EW Z a0 EL) (hx : p.tables.exec = Jvm.exec)
    (Y : Stand p l e R (s.setVm vm0) m args below meth c T' (locs ++ L) cells' slots') (hL : Fr n0 L) (K' : Keep h T'.heap SA') (hsub : ∀ x ∈ SA', x ∈ SA) :
    Wd p l e R s m args below meth c Z a0 EL own n0 SA0 SA T' T'.heap cells' slots' := by
  have A := CHr.keep K' (fun x q => (S x (hsub x q)).1) hC.1
  exact ⟨vm0, _, k0, Y, rfl, hS, Nat.le_trans hk K'.1, hZ, hown, hC.trans A, N.app hL, O.keep K' (fun x q => (S x (hsub x q)).2.2.1), K.trans K' (fun x q => (S x (hsub x q)).2.2.2), S.go A, hEL, hx⟩
/-- the ends -/
theorem Wd.leave (X : Wd p l e R s m args below meth c Z a0 EL own n0 SA0 SA T h cells slots) (hv : meth.sig.returnType = none → ∀ w, v = w → False) (hlk : meth.locks = false) (hcl : cells ≤ R.cells) (hsl : slots ≤ R.slots) (q : Q0 (some v) h)
    (st' : ∀ fs, (∀ (f : JFrame) (acts : List Action), f.method = m → f.locked = none → f.entered = [] → (doReturn e (T.setTop f) acts (some v)).1 = T.setFrames fs) → ∀ (vm0 : Vm) (locs : List Loc), Stand p l e R (s.setVm vm0) m args below meth c T locs cells slots → Steps p.tables e below (T.setTop (mkF m pc Ls st)) (T.setFrames fs)) :
    Goes p.tables e below (Endq Z EL s n0 SA0 R Q0) (T.setTop (mkF m pc Ls st)) := by
  have X0 := X
  obtain ⟨vm0, locs, k0, Y, eT, hS, hk, hZ, hown, hC, N, O, K, S, hEL, hx⟩ := X
  obtain ⟨fs, hr, hrun, hended, hE⟩ := (Y.mono hcl hsl).leaveW hS (by rw [eT]; exact hk) (v := some v) (fun q => (hv q v rfl).elim) hlk
  refine ⟨_, _, st' fs hr vm0 locs Y, hrun, hended, _, _, rfl, ⟨?_, N, ?_, ?_⟩, ?_, hE⟩
  · show Q0 (some v) T.heap; rw [eT]; exact q
  · show Old Z n0 T.heap; rw [eT]; exact O
  · show Keep s.heap T.heap SA0; rw [eT]; exact K
  · show CHr Z EL s.vm s.heap T.vm T.heap; rw [eT]; exact hC.trans (CHv.at Y hZ hEL hC.1)
theorem Wd.retn (X : Wd p l e R s m args below meth c Z a0 EL own n0 SA0 SA T h cells slots) (hret : meth.sig.returnType = none) (hlk : meth.locks = false) (hd : decode c.code pc = .ok (.return_, 1)) (hcl : cells ≤ R.cells) (hsl : slots ≤ R.slots) (q : Q0 none h) :
    Goes p.tables e below (Endq Z EL s n0 SA0 R Q0) (T.setTop (mkF m pc Ls [])) := by
  obtain ⟨vm0, locs, k0, Y, eT, hS, hk, hZ, hown, hC, N, O, K, S, hEL, hx⟩ := X
  obtain ⟨fs, hr, hrun, hended, hE⟩ := (Y.mono hcl hsl).leaveW hS (by rw [eT]; exact hk) (v := none) (fun _ => rfl) hlk
  refine ⟨_, _, Y.returnOut hx hret hd hr, hrun, hended, _, _, rfl, ⟨?_, N, ?_, ?_⟩, ?_, hE⟩
  · show Q0 none T.heap; rw [eT]; exact q
  · show Old Z n0 T.heap; rw [eT]; exact O
  · show Keep s.heap T.heap SA0; rw [eT]; exact K
  · show CHr Z EL s.vm s.heap T.vm T.heap; rw [eT]; exact hC.trans (CHv.at Y hZ hEL hC.1)
/-- ireturn of a boolean, byte, char or short -/
theorem Wd.reti (X : Wd p l e R s m args below meth c Z a0 EL own n0 SA0 SA T h cells slots) {t : FieldType} {x : Int32} (hret : meth.sig.returnType = some t) (ht : t = .boolean ∨ t = .byte ∨ t = .char ∨ t = .short) (hlk : meth.locks = false) (hd : decode c.code pc = .ok (.ireturn, 1)) (hcl : cells ≤ R.cells) (hsl : slots ≤ R.slots) (q : Q0 (some (.int (nar t x))) h) :
    Goes p.tables e below (Endq Z EL s n0 SA0 R Q0) (T.setTop (mkF m pc Ls (.int x :: st))) :=
  X.leave (fun q => by rw [hret] at q; cases q) hlk hcl hsl q (fun fs hr vm0 locs Y => retN Y X.exec hret ht hd hr)
/-- ireturn of an int -/
theorem Wd.retI (X : Wd p l e R s m args below meth c Z a0 EL own n0 SA0 SA T h cells slots) {x : Int32} (hret : meth.sig.returnType = some .int) (hlk : meth.locks = false) (hd : decode c.code pc = .ok (.ireturn, 1)) (hcl : cells ≤ R.cells) (hsl : slots ≤ R.slots) (q : Q0 (some (.int x)) h) :
    Goes p.tables e below (Endq Z EL s n0 SA0 R Q0) (T.setTop (mkF m pc Ls (.int x :: st))) :=
  X.leave (fun q => by rw [hret] at q; cases q) hlk hcl hsl q (fun fs hr vm0 locs Y => retOut Y X.exec hret rfl (Or.inl ⟨rfl, Or.inl rfl, _, rfl⟩) hd hr)
/-- areturn -/
theorem Wd.retA (X : Wd p l e R s m args below meth c Z a0 EL own n0 SA0 SA T h cells slots) {t : FieldType} {x : Value} (hret : meth.sig.returnType = some t) (ht : t.isReference = true) (hx : x.isRef = true) (hlk : meth.locks = false) (hd : decode c.code pc = .ok (.areturn, 1)) (hcl : cells ≤ R.cells) (hsl : slots ≤ R.slots) (q : Q0 (some x) h) :
    Goes p.tables e below (Endq Z EL s n0 SA0 R Q0) (T.setTop (mkF m pc Ls (x :: st))) :=
  X.leave (fun q => by rw [hret] at q; cases q) hlk hcl hsl q (fun fs hr vm0 locs Y => retOut Y X.exec hret (by cases t <;> cases x <;> first | rfl | cases ht | cases hx) (Or.inr (Or.inr (Or.inr (Or.inr ⟨rfl, ht, hx⟩)))) hd hr)
end Wide
end Own
namespace Own
open Jvm Jvm.ClassFile Sem Op Lib Jvm.Free Jvm.Stand Jvm.LawKit Jvm.RoadKit Bundle
/-- as Ct, and it hands out F: cells that it made and that may be written -/
def CtF (l : Launch) (Z : State) (EL : List (String × Nat)) (ws : List Jvm.Cond) (y : MethodName) (bytes : ByteArray) (maxL : Nat) (ret : Option FieldType) (rm : Room) (as' : Array Value) (h0 : Heap) (n0 : Nat) (SA0 : List Addr) (Q0 : Option Value → Heap → List Addr → Prop) : Prop :=
  MetFree l y (head1 (Jvm.Cond.code y bytes maxL ret :: ws) rm) (fun a U => a = as' ∧ Z.Warmed39 U.vm ∧ U.heap = h0 ∧ CHv Z EL U.vm h0 ∧ Old Z n0 h0 ∧ ∀ x ∈ SA0, Safe Z EL U.vm h0 x ∧ x < h0.size ∧ n0 ≤ x) (fun _ _ _ _ _ => True)
    (fun _ U o U' => ∃ v L, o = .returned v ∧ (∃ F, Q0 v U'.heap F ∧ (Fr n0 L ∧ Old Z n0 U'.heap ∧ Keep h0 U'.heap SA0) ∧ ∀ x ∈ F, Safe Z EL U'.vm U'.heap x ∧ x < U'.heap.size ∧ n0 ≤ x ∧ h0.size ≤ x) ∧ CHr Z EL U.vm U.heap U'.vm U'.heap ∧ ReturnedEndW U o U' L rm.cells rm.slots)
def EndqF (Z : State) (EL : List (String × Nat)) (s : State) (n0 : Nat) (SA0 : List Addr) (rm : Room) (Q0 : Option Value → Heap → List Addr → Prop) (o : Outcome) (U' : State) : Prop :=
  ∃ v L, o = .returned v ∧ (∃ F, Q0 v U'.heap F ∧ (Fr n0 L ∧ Old Z n0 U'.heap ∧ Keep s.heap U'.heap SA0) ∧ ∀ x ∈ F, Safe Z EL U'.vm U'.heap x ∧ x < U'.heap.size ∧ n0 ≤ x ∧ s.heap.size ≤ x) ∧ CHr Z EL s.vm s.heap U'.vm U'.heap ∧ ReturnedEndW s o U' L rm.cells rm.slots
section Wide
variable {p : Program} {l : Launch} {e : Env} {R : Room} {s : State} {m : MethodId} {args : Array Value} {below : List Frame} {meth : Method} {c : Code}
variable {Z : State} {a0 : Array Value} {EL : List (String × Nat)} {own : String} {n0 : Nat} {SA0 SA SA' : List Addr} {T : State} {h h' h0 : Heap} {cells slots : Nat} {Q : Outcome → State → Prop} {pc : Nat} {Ls : Array Slot} {st : List Value} {vm0 vm1 : Vm} {a : Addr} {sl : Nat} {v : Value}
variable {ws : List Jvm.Cond} {y z : MethodName} {bytes : ByteArray} {maxL : Nat} {ret : Option FieldType} {rm : Room} {as' : Array Value} {Q0 : Option Value → Heap → List Addr → Prop} {Q1 : Option Value → Heap → Prop}
theorem CtF.enter (pn : plainFor y = true) (hEL : EW Z a0 EL)
    (body : ∀ (p : Program) (e : Env) (s : State) (m : MethodId) (below : List Frame) (meth : Method) (c : Code) (T : State), c.code = bytes → c.maxLocals = maxL → meth.sig.returnType = ret → meth.locks = false → meth.name = y.name → s.heap = h0 → Wd p l e rm s m as' below meth c Z a0 EL y.cls n0 SA0 SA0 T h0 0 0 →
      Goes p.tables e below (EndqF Z EL s n0 SA0 rm Q0) (T.setTop (entryFrame m as' maxL))) : CtF l Z EL ws y bytes maxL ret rm as' h0 n0 SA0 Q0 := by
  refine MetFree.of_bodySF pn hisR ?_
  intro p e s m args below meth c s₁ Bd hml0 hP hK
  obtain ⟨rfl, hZ, rfl, H, O, S⟩ := hP
  have Y : Stand p l e rm s m args below meth c s₁ [] 0 0 := Stand.of_body Bd
  have e0 : s₁.heap = s.heap := by rw [Bd.state]; rfl
  obtain ⟨s₂, o, h1, h2, h3, v, L, h4, h5, h6, h7⟩ := body p e s m below meth c s₁ Bd.bytes hml0 Bd.returns (BodyLoose.notSynchronized Bd) (name_of_methodNamed Bd.named Bd.method).1 rfl
    ⟨s.vm, [], 0, Y, e0, (State.WarmedH.refl s).since _, Nat.zero_le _, hZ, findClass_of_methodNamed Bd.named, CHr.refl H, Fr.nil _, O, Keep.refl _ _, fun x q => ⟨(S x q).1, (S x q).2.1, (S x q).2.2, Or.inl q⟩, hEL, Bd.exec⟩
  exact ⟨s₂, o, h1, h2, h3, v, L, h4, h5, h6, h7⟩
/-- a contract that hands out nothing, as one that hands out the empty list -/
theorem Ct.toF (ct : Ct l Z EL ws y bytes maxL ret rm as' h0 n0 SA0 Q1) : CtF l Z EL ws y bytes maxL ret rm as' h0 n0 SA0 (fun v h F => F = [] ∧ Q1 v h) := fun p e h1 h2 h3 s m args below h4 h5 h6 h7 => by
  obtain ⟨n, o, g1, g2, g3, v, L, g4, ⟨q1, q2, q3, q4⟩, g5, g6⟩ := ct p e h1 h2 h3 s m args below h4 h5 h6 h7
  exact ⟨n, o, g1, g2, g3, v, L, g4, ⟨[], ⟨rfl, q1⟩, ⟨q2, q3, q4⟩, fun _ q => nomatch q⟩, g5, g6⟩
theorem CtF.back {len W : Nat} (ct : CtF l Z EL [] y bytes maxL ret rm as' h n0 SA0 Q0) (hZ : Z.Warmed39 vm0) (wc : (Jvm.Cond.code y bytes maxL ret).before a0 Z = true) (wz : (Jvm.Cond.initialized y.cls).before a0 Z = true) (hf : rm.frames + 1 ≤ R.frames) (hl : W + (maxL + 11) + rm.locals ≤ R.locals) (hEL : EW Z a0 EL) (H : CHv Z EL vm0 h) (O : Old Z n0 h)
    (S : ∀ x ∈ SA0, Safe Z EL vm0 h x ∧ x < h.size ∧ n0 ≤ x) :
    BackS l R p e below (s.setVm vm0) args y len W (fun A a => a = as' ∧ A.U.heap = h ∧ A.cells + rm.cells ≤ R.cells ∧ A.slots + rm.slots ≤ R.slots)
      (fun A _ v B => ∃ L, (∃ F, Q0 v B.U.heap F ∧ (Fr n0 L ∧ Old Z n0 B.U.heap ∧ Keep h B.U.heap SA0) ∧ ∀ x ∈ F, Safe Z EL B.U.vm B.U.heap x ∧ x < B.U.heap.size ∧ n0 ≤ x ∧ h.size ≤ x) ∧ B.locs = A.locs ++ L ∧ B.cells = A.cells + rm.cells ∧ B.slots = A.slots + rm.slots ∧ CHr Z EL vm0 h B.U.vm B.U.heap) :=
  BackS.of_freeW (bytes := bytes) (maxL := maxL) (ret := ret) (E := fun _ first o t L k n => k = rm.cells ∧ n = rm.slots ∧ (∃ v, o = .returned v ∧ (∃ F, Q0 v t.heap F ∧ (Fr n0 L ∧ Old Z n0 t.heap ∧ Keep h t.heap SA0) ∧ ∀ x ∈ F, Safe Z EL t.vm t.heap x ∧ x < t.heap.size ∧ n0 ≤ x ∧ h.size ≤ x)) ∧ CHr Z EL first.vm first.heap t.vm t.heap) ct hf hl
    (fun m meth c A a Y hp => have hU : Z.Warmed39 A.U.vm := wtrans (s := s.setVm vm0) hZ Y.warmed
      ⟨by show (Jvm.Cond.and _ .tt).before a A.U = true; rw [Cond.before_and, mv hU wc]; rfl, mv hU wc, mv hU wz, hp.2.2.1, hp.2.2.2⟩)
    (fun m meth c A a g mk Y hp => ⟨hp.1, wtrans (s := s.setVm vm0) hZ Y.warmed, hp.2.1, (CHv.at Y hZ hEL H).1, O, fun x q => ⟨(CHv.at Y hZ hEL H).safe (S x q).2.1 (S x q).1, (S x q).2⟩⟩) (fun _ _ _ _ _ _ _ _ _ => trivial)
    (fun _ _ _ _ ⟨v, L, h1, h2, h3, h4⟩ => ⟨L, _, _, h4, rfl, rfl, ⟨v, h1, h2⟩, h3⟩)
    (fun m meth c A a g mk v t L k n Y hp _ _ ⟨e1, e2, ⟨v', e3, e4⟩, e5⟩ => by
      cases e3; subst e1 e2
      refine ⟨L, e4, rfl, rfl, rfl, (CHv.at Y hZ hEL H).trans ?_⟩
      rw [← hp.2.1]; exact e5)
/-- what stands behind a call by such a contract -/
theorem callNF {T' : State} {L : List Loc} {F : List Addr} {k0 cells' slots' : Nat} (hS : s.Since vm0 k0) (hk : k0 ≤ h.size) (hZ : Z.Warmed39 vm0) (hown : vm0.findClass own = some m.cls) (hC : CHr Z EL s.vm s.heap vm0 h) {locs : List Loc} (N : Fr n0 locs) (K : Keep s.heap h SA0) (S : Sfs Z EL vm0 h n0 s.heap.size SA0 SA) (hEL : EW Z a0 EL) (hx : p.tables.exec = Jvm.exec)
    (Y : Stand p l e R ((s.setVm vm0).setVm T'.vm) m args below meth c T' (locs ++ L) cells' slots') (h2 : (s.setVm vm0).Since T'.vm T'.heap.size) (hg : h.size ≤ T'.heap.size) (hL : Fr n0 L) (O' : Old Z n0 T'.heap) (K' : Keep h T'.heap SA') (hsub : ∀ x ∈ SA', x ∈ SA) (A : CHr Z EL vm0 h T'.vm T'.heap)
    (hF : ∀ x ∈ F, Safe Z EL T'.vm T'.heap x ∧ x < T'.heap.size ∧ n0 ≤ x ∧ h.size ≤ x) :
    Wd p l e R s m args below meth c Z a0 EL own n0 SA0 (F ++ SA) T' T'.heap cells' slots' := by
  obtain ⟨r1, r2, r3, r4⟩ := rebS (own := own) hS hk Y h2 hg hZ hown
  refine ⟨T'.vm, _, _, r1, rfl, r2, Nat.le_refl _, r3, r4, hC.trans A, N.app hL, O', K.trans K' (fun x q => (S x (hsub x q)).2.2.2), fun x q => ?_, hEL, hx⟩
  rcases List.mem_append.mp q with q | q
  · exact ⟨(hF x q).1, (hF x q).2.1, (hF x q).2.2.1, Or.inr (Nat.le_trans K.1 (hF x q).2.2.2)⟩
  · exact S.go A x q
theorem Wd.callsF (X : Wd p l e R s m args below meth c Z a0 EL own n0 SA0 SA T h cells slots) (argsL rest : List Value) {idx : Nat} (ct : CtF l Z EL [] y bytes maxL ret rm argsL.toArray h n0 SA' Q0) (w1 : (Jvm.Cond.methodLink own idx y).before a0 Z = true) (w2 : (Jvm.Cond.static y).before a0 Z = true) (w3 : (Jvm.Cond.initialized y.cls).before a0 Z = true) (w4 : (Jvm.Cond.code y bytes maxL ret).before a0 Z = true)
    (hy : y.cls ≠ "java/lang/invoke/MethodHandle" ∧ y.cls ≠ "java/lang/invoke/VarHandle") (hsub : ∀ x ∈ SA', x ∈ SA) (hf : rm.frames + 1 ≤ R.frames) (W : Nat) (hl : W + (maxL + 11) + rm.locals ≤ R.locals) (hcl : cells + rm.cells ≤ R.cells) (hsl : slots + rm.slots ≤ R.slots)
    (hlen : ∀ sig, parseMethodDescriptor y.desc = some sig → argsL.length = sig.parameters.length) (hst : st = argsL.reverse ++ rest) (hW : (rest.map fun v => v.category).sum ≤ W) (hsize : Ls.size = c.maxLocals) (hd : decode c.code pc = .ok (.invokestatic idx, 3))
    (k : ∀ (T' : State) (h' : Heap) (v : Option Value) (F : List Addr), Wd p l e R s m args below meth c Z a0 EL own n0 SA0 (F ++ SA) T' h' (cells + rm.cells) (slots + rm.slots) → Keep h h' SA' → (∀ x ∈ F, h.size ≤ x) → Q0 v h' F → Goes p.tables e below Q (T'.setTop (mkF m (pc + 3) Ls (v.toList ++ rest)))) : Goes p.tables e below Q (T.setTop (mkF m pc Ls st)) := by
  obtain ⟨vm0, locs, k0, Y, eT, hS, hk, hZ, hown, hC, N, O, K, S, hEL, hx⟩ := X
  obtain ⟨v, vm1, ⟨T', L', c', s'⟩, -, Y', h2, hg, ⟨L, ⟨F, q0, ⟨q1, q2, q3⟩, hF⟩, rfl, rfl, rfl, A⟩, st'⟩ := callSS Y hx hown (mvT hZ w1) (mvT hZ w2) (mvT hZ w3) (mvT hZ w4) hy (ct.back (a0 := a0) (W := W) (len := 3) hZ w4 w3 hf hl hEL hC.1 O fun x q => ⟨(S x (hsub x q)).1, (S x (hsub x q)).2.1, (S x (hsub x q)).2.2.1⟩)
    (g := mkF m pc Ls st) rfl hsize (argsL := argsL) (rest := rest) hlen hst (by show 2 * 0 + _ ≤ _; omega) hd (fun _ _ => ⟨rfl, eT, hcl, hsl⟩)
  exact Goes.aft st' (k T' T'.heap v F (callNF hS hk hZ hown hC N K S hEL hx Y' h2 (by rw [← eT]; exact hg) q1 q2 q3 hsub A hF) q3 (fun x q => (hF x q).2.2.2) q0)
theorem Wd.callcF (X : Wd p l e R s m args below meth c Z a0 EL own n0 SA0 SA T h cells slots) (argsL rest : List Value) {idx : Nat} (ct : CtF l Z EL [] y bytes maxL none rm (.ref a :: argsL).toArray h n0 SA' Q0) (hy1 : y.name = "<init>") (w1 : (Jvm.Cond.methodLink own idx y).before a0 Z = true) (w2 : (Jvm.Cond.instanceMethod y).before a0 Z = true) (w3 : (Jvm.Cond.initialized y.cls).before a0 Z = true) (w4 : (Jvm.Cond.code y bytes maxL none).before a0 Z = true)
    (hy : y.cls ≠ "java/lang/invoke/MethodHandle" ∧ y.cls ≠ "java/lang/invoke/VarHandle") (hsub : ∀ x ∈ SA', x ∈ SA) (hf : rm.frames + 1 ≤ R.frames) (W : Nat) (hl : W + (maxL + 11) + rm.locals ≤ R.locals) (hcl : cells + rm.cells ≤ R.cells) (hsl : slots + rm.slots ≤ R.slots)
    (hlen : ∀ sig, parseMethodDescriptor y.desc = some sig → argsL.length = sig.parameters.length) (hst : st = argsL.reverse ++ .ref a :: rest) (hW : (rest.map fun v => v.category).sum ≤ W) (hsize : Ls.size = c.maxLocals) (hd : decode c.code pc = .ok (.invokespecial idx, 3))
    (k : ∀ (T' : State) (h' : Heap) (v : Option Value) (F : List Addr), Wd p l e R s m args below meth c Z a0 EL own n0 SA0 (F ++ SA) T' h' (cells + rm.cells) (slots + rm.slots) → Keep h h' SA' → (∀ x ∈ F, h.size ≤ x) → Q0 v h' F → Goes p.tables e below Q (T'.setTop (mkF m (pc + 3) Ls (v.toList ++ rest)))) : Goes p.tables e below Q (T.setTop (mkF m pc Ls st)) := by
  obtain ⟨vm0, locs, k0, Y, eT, hS, hk, hZ, hown, hC, N, O, K, S, hEL, hx⟩ := X
  obtain ⟨v, vm1, ⟨T', L', c', s'⟩, -, Y', h2, hg, ⟨L, ⟨F, q0, ⟨q1, q2, q3⟩, hF⟩, rfl, rfl, rfl, A⟩, st'⟩ := Y.specialBackS hx hy1 hown (mvT hZ w1) (mvT hZ w2) (mvT hZ w4) hy (ct.back (a0 := a0) (W := W) (len := 3) hZ w4 w3 hf hl hEL hC.1 O fun x q => ⟨(S x (hsub x q)).1, (S x (hsub x q)).2.1, (S x (hsub x q)).2.2.1⟩)
    (g := mkF m pc Ls st) rfl hsize (Steps.refl _) (a := a) (argsL := argsL) (rest := rest) hlen hst (by show 2 * 0 + _ ≤ _; omega) hd (fun _ _ => ⟨rfl, eT, hcl, hsl⟩)
  exact Goes.aft st' (k T' T'.heap v F (callNF hS hk hZ hown hC N K S hEL hx Y' h2 (by rw [← eT]; exact hg) q1 q2 q3 hsub A hF) q3 (fun x q => (hF x q).2.2.2) q0)
theorem Wd.callvF (X : Wd p l e R s m args below meth c Z a0 EL own n0 SA0 SA T h cells slots) (argsL rest : List Value) {idx : Nat} {C : String} (ct : CtF l Z EL [] z bytes maxL ret rm (.ref a :: argsL).toArray h n0 SA' Q0) (E : Exa Z h a C) (w1 : (Jvm.Cond.methodLink own idx y).before a0 Z = true) (w2 : (Jvm.Cond.declares y).before a0 Z = true) (w3 : (Jvm.Cond.selects C y z).before a0 Z = true) (w4 : (Jvm.Cond.instanceMethod z).before a0 Z = true)
    (hnf : NotFace Z y) (w5 : (Jvm.Cond.initialized z.cls).before a0 Z = true) (w6 : (Jvm.Cond.code z bytes maxL ret).before a0 Z = true)
    (hy : y.cls ≠ "java/lang/invoke/MethodHandle" ∧ y.cls ≠ "java/lang/invoke/VarHandle") (hsub : ∀ x ∈ SA', x ∈ SA) (hf : rm.frames + 1 ≤ R.frames) (W : Nat) (hl : W + (maxL + 11) + rm.locals ≤ R.locals) (hcl : cells + rm.cells ≤ R.cells) (hsl : slots + rm.slots ≤ R.slots)
    (hlen : ∀ sig, parseMethodDescriptor y.desc = some sig → argsL.length = sig.parameters.length) (hst : st = argsL.reverse ++ .ref a :: rest) (hW : (rest.map fun v => v.category).sum ≤ W) (hsize : Ls.size = c.maxLocals) (hd : decode c.code pc = .ok (.invokevirtual idx, 3))
    (k : ∀ (T' : State) (h' : Heap) (v : Option Value) (F : List Addr), Wd p l e R s m args below meth c Z a0 EL own n0 SA0 (F ++ SA) T' h' (cells + rm.cells) (slots + rm.slots) → Keep h h' SA' → (∀ x ∈ F, h.size ≤ x) → Q0 v h' F → Goes p.tables e below Q (T'.setTop (mkF m (pc + 3) Ls (v.toList ++ rest)))) : Goes p.tables e below Q (T.setTop (mkF m pc Ls st)) := by
  obtain ⟨vm0, locs, k0, Y, eT, hS, hk, hZ, hown, hC, N, O, K, S, hEL, hx⟩ := X
  obtain ⟨cB, kB, u1, -, u3⟩ := isOf (s := s.setVm vm0) hZ eT E
  have hnf' : NotFace (s.setVm vm0) y := fun r0 h0 => by
    have h0' : Z.methodNamed? y = some r0 := by
      have q : (Z.setVm vm0).methodNamed? y = Z.methodNamed? y := State.methodNamed?_setVm hZ.alike y
      have q' : (Z.setVm vm0).methodNamed? y = (s.setVm vm0).methodNamed? y := rfl
      rw [← q, q']; exact h0
    obtain ⟨k, hk1, hk2⟩ := hnf r0 h0'
    obtain ⟨k', g1, g2⟩ := hZ.alike.2.2 _ _ hk1
    exact ⟨k', g1, by rw [g2]; exact hk2⟩
  obtain ⟨v, vm1, ⟨T', L', c', s'⟩, -, Y', h2, hg, ⟨L, ⟨F, q0, ⟨q1, q2, q3⟩, hF⟩, rfl, rfl, rfl, A⟩, st'⟩ := Y.virtualBackS hx hown (mvT hZ w1) (mvT hZ w2) hnf' (mvT hZ w3) (mvT hZ w4) hy (ct.back (a0 := a0) (W := W) (len := 3) hZ w6 w5 hf hl hEL hC.1 O fun x q => ⟨(S x (hsub x q)).1, (S x (hsub x q)).2.1, (S x (hsub x q)).2.2.1⟩)
    u1 u3 (g := mkF m pc Ls st) rfl hsize (Steps.refl _) (argsL := argsL) (rest := rest) hlen hst (by show 2 * 0 + _ ≤ _; omega) hd (fun _ _ => ⟨rfl, eT, hcl, hsl⟩)
  exact Goes.aft st' (k T' T'.heap v F (callNF hS hk hZ hown hC N K S hEL hx Y' h2 (by rw [← eT]; exact hg) q1 q2 q3 hsub A hF) q3 (fun x q => (hF x q).2.2.2) q0)
theorem decOf {y : MethodName} {bytes : ByteArray} {maxL : Nat} {ret : Option FieldType} (w1 : (Jvm.Cond.instanceMethod y).before a0 Z = true) (w2 : (Jvm.Cond.code y bytes maxL ret).before a0 Z = true) : (Jvm.Cond.declares y).before a0 Z = true := by
  obtain ⟨mk, methM, hnamed, hmethM, hst, -⟩ := Cond.instanceMethod_spec w1
  obtain ⟨m2, cM, q1, -, -, -, -, -, -, hsig⟩ := Cond.code_spec hnamed w2
  cases hmethM.symm.trans q1
  simp [Cond.before, Cond.holds, Cond.value, hnamed, hmethM, hst, hsig]
theorem nfOf {y y' z' : MethodName} {C : String} (ws : (Jvm.Cond.selects C y' z').before a0 Z = true) (e : z'.cls = y.cls) : NotFace Z y := fun r0 h0 => by
  obtain ⟨c2, r2, m2, -, -, q3, -, kP, hkP, hkPi⟩ := Cond.selects_spec ws
  have hc := findClass_of_methodNamed h0
  have hc' := findClass_of_methodNamed q3
  rw [e] at hc'
  have : m2.cls = r0.cls := Option.some.inj (hc'.symm.trans hc)
  exact ⟨kP, by rw [← this]; exact hkP, hkPi⟩
/-- that a class declares y itself and is no interface: what a lookup through it finds -/
theorem smOf {y y' z' : MethodName} {C : String} (w : (Jvm.Cond.instanceMethod y).before a0 Z = true) (ws : (Jvm.Cond.selects C y' z').before a0 Z = true) (e : z'.cls = y.cls) (hy : y.cls ≠ "java/lang/invoke/MethodHandle" ∧ y.cls ≠ "java/lang/invoke/VarHandle") : (Jvm.Cond.sameMethod y.cls y.cls y.name y.desc).before a0 Z = true := by
  obtain ⟨mk, methM, hnamed, hmethM, -, -⟩ := Cond.instanceMethod_spec w
  obtain ⟨c2, r2, m2, -, -, q3, -, kP, hkP, hkPi⟩ := Cond.selects_spec ws
  have hc := findClass_of_methodNamed hnamed
  have hc' := findClass_of_methodNamed q3
  rw [e] at hc'
  have e1 := Option.some.inj (hc.symm.trans hc')
  rw [← e1] at hkP
  have hf := State.methodFound?_of_named hnamed hy
  have hn2 : Z.methodNamed? ⟨y.cls, y.name, y.desc⟩ = some mk := hnamed
  simp [Cond.before, Cond.holds, Cond.value, hc, hf, hn2, hkP, hkPi]
/-- invokespecial of a superclass's method -/
theorem Wd.callu (X : Wd p l e R s m args below meth c Z a0 EL own n0 SA0 SA T h cells slots) (argsL rest : List Value) {idx : Nat} {C : String} (ct : CtF l Z EL [] y bytes maxL ret rm (.ref a :: argsL).toArray h n0 SA' Q0) (E : Exa Z h a C) (w1 : (Jvm.Cond.methodLink own idx y).before a0 Z = true) (w2 : (Jvm.Cond.sameMethod y.cls y.cls y.name y.desc).before a0 Z = true) (w3 : (Jvm.Cond.instanceMethod y).before a0 Z = true) (w4 : (Jvm.Cond.superclass own y.cls).before a0 Z = true) (hn : y.name ≠ "<init>")
    (w5 : (Jvm.Cond.initialized y.cls).before a0 Z = true) (w6 : (Jvm.Cond.code y bytes maxL ret).before a0 Z = true) (hsub : ∀ x ∈ SA', x ∈ SA) (hf : rm.frames + 1 ≤ R.frames) (W : Nat) (hl : W + (maxL + 11) + rm.locals ≤ R.locals) (hcl : cells + rm.cells ≤ R.cells) (hsl : slots + rm.slots ≤ R.slots)
    (hlen : ∀ sig, parseMethodDescriptor y.desc = some sig → argsL.length = sig.parameters.length) (hst : st = argsL.reverse ++ .ref a :: rest) (hW : (rest.map fun v => v.category).sum ≤ W) (hsize : Ls.size = c.maxLocals) (hd : decode c.code pc = .ok (.invokespecial idx, 3))
    (k : ∀ (T' : State) (h' : Heap) (v : Option Value) (F : List Addr), Wd p l e R s m args below meth c Z a0 EL own n0 SA0 (F ++ SA) T' h' (cells + rm.cells) (slots + rm.slots) → Keep h h' SA' → (∀ x ∈ F, h.size ≤ x) → Q0 v h' F → Goes p.tables e below Q (T'.setTop (mkF m (pc + 3) Ls (v.toList ++ rest)))) : Goes p.tables e below Q (T.setTop (mkF m pc Ls st)) := by
  obtain ⟨vm0, locs, k0, Y, eT, hS, hk, hZ, hown, hC, N, O, K, S, hEL, hx⟩ := X
  obtain ⟨v, vm1, ⟨T', L', c', s'⟩, -, Y', h2, hg, ⟨L, ⟨F, q0, ⟨q1, q2, q3⟩, hF⟩, rfl, rfl, rfl, A⟩, st'⟩ := superBackS Y hx hZ hown w1 w2 w3 w4 hn (ct.back (a0 := a0) (W := W) (len := 3) hZ w6 w5 hf hl hEL hC.1 O fun x q => ⟨(S x (hsub x q)).1, (S x (hsub x q)).2.1, (S x (hsub x q)).2.2.1⟩)
    eT (Ins.self E) (g := mkF m pc Ls st) rfl hsize w6 (argsL := argsL) (rest := rest) hlen hst (by show 2 * 0 + _ ≤ _; omega) hd (fun _ _ => ⟨rfl, eT, hcl, hsl⟩)
  exact Goes.aft st' (k T' T'.heap v F (callNF hS hk hZ hown hC N K S hEL hx Y' h2 (by rw [← eT]; exact hg) q1 q2 q3 hsub A hF) q3 (fun x q => (hF x q).2.2.2) q0)
/-- the ends -/
theorem Wd.leaveF (X : Wd p l e R s m args below meth c Z a0 EL own n0 SA0 SA T h cells slots) (F : List Addr) (hF : ∀ x ∈ F, x ∈ SA ∧ s.heap.size ≤ x) {w : Option Value} (hv : meth.sig.returnType = none → w = none) (hlk : meth.locks = false) (hcl : cells ≤ R.cells) (hsl : slots ≤ R.slots) (q : Q0 w h F)
    (st' : ∀ fs, (∀ (f : JFrame) (acts : List Action), f.method = m → f.locked = none → f.entered = [] → (doReturn e (T.setTop f) acts w).1 = T.setFrames fs) → ∀ (vm0 : Vm) (locs : List Loc), Stand p l e R (s.setVm vm0) m args below meth c T locs cells slots → Steps p.tables e below (T.setTop (mkF m pc Ls st)) (T.setFrames fs)) :
    Goes p.tables e below (EndqF Z EL s n0 SA0 R Q0) (T.setTop (mkF m pc Ls st)) := by
  obtain ⟨vm0, locs, k0, Y, eT, hS, hk, hZ, hown, hC, N, O, K, S, hEL, hx⟩ := X
  obtain ⟨fs, hr, hrun, hended, hE⟩ := (Y.mono hcl hsl).leaveW hS (by rw [eT]; exact hk) (v := w) hv hlk
  have A := CHv.at Y hZ hEL hC.1
  refine ⟨_, _, st' fs hr vm0 locs Y, hrun, hended, _, _, rfl, ⟨F, ?_, ⟨N, ?_, ?_⟩, fun x hx => ?_⟩, ?_, hE⟩
  · show Q0 w T.heap F; rw [eT]; exact q
  · show Old Z n0 T.heap; rw [eT]; exact O
  · show Keep s.heap T.heap SA0; rw [eT]; exact K
  · obtain ⟨g1, g2⟩ := hF x hx
    show Safe Z EL T.vm T.heap x ∧ x < T.heap.size ∧ n0 ≤ x ∧ s.heap.size ≤ x
    rw [eT]; exact ⟨A.safe (S x g1).2.1 (S x g1).1, (S x g1).2.1, (S x g1).2.2.1, g2⟩
  · show CHr Z EL s.vm s.heap T.vm T.heap; rw [eT]; exact hC.trans A
theorem Wd.retnF (X : Wd p l e R s m args below meth c Z a0 EL own n0 SA0 SA T h cells slots) (F : List Addr) (hF : ∀ x ∈ F, x ∈ SA ∧ s.heap.size ≤ x) (hret : meth.sig.returnType = none) (hlk : meth.locks = false) (hd : decode c.code pc = .ok (.return_, 1)) (hcl : cells ≤ R.cells) (hsl : slots ≤ R.slots) (q : Q0 none h F) :
    Goes p.tables e below (EndqF Z EL s n0 SA0 R Q0) (T.setTop (mkF m pc Ls [])) :=
  X.leaveF F hF (fun _ => rfl) hlk hcl hsl q (fun fs hr vm0 locs Y => Y.returnOut X.exec hret hd hr)
theorem Wd.retAF (X : Wd p l e R s m args below meth c Z a0 EL own n0 SA0 SA T h cells slots) (F : List Addr) (hF : ∀ x ∈ F, x ∈ SA ∧ s.heap.size ≤ x) {t : FieldType} {x : Value} (hret : meth.sig.returnType = some t) (ht : t.isReference = true) (hx : x.isRef = true) (hlk : meth.locks = false) (hd : decode c.code pc = .ok (.areturn, 1)) (hcl : cells ≤ R.cells) (hsl : slots ≤ R.slots) (q : Q0 (some x) h F) :
    Goes p.tables e below (EndqF Z EL s n0 SA0 R Q0) (T.setTop (mkF m pc Ls (x :: st))) :=
  X.leaveF F hF (fun q => by rw [hret] at q; cases q) hlk hcl hsl q (fun fs hr vm0 locs Y => retOut Y X.exec hret (by cases t <;> cases x <;> first | rfl | cases ht | cases hx) (Or.inr (Or.inr (Or.inr (Or.inr ⟨rfl, ht, hx⟩)))) hd hr)
/-- baload of a byte[] -/
theorem Wd.baload (X : Wd p l e R s m args below meth c Z a0 EL own n0 SA0 SA T h cells slots) {kb : ClassId} {n j : Int32} {vs : List Value} {dv v : Value} (V : Arv Z h a kb .byte n vs dv) (hj : ¬ j < 0 ∧ j < n) (hv : vs.getD j.toNatClampNeg dv = v) (hd : decode c.code pc = .ok (.baload, 1))
    (g : Goes p.tables e below Q (T.setTop (mkF m (pc + 1) Ls (v :: st)))) : Goes p.tables e below Q (T.setTop (mkF m pc Ls (.int j :: .ref a :: st))) := by
  obtain ⟨vm0, locs, k0, Y, eT, r2, r3, r4, r5, r⟩ := X
  obtain ⟨cl, A, v1, v2, v3, v4, v5⟩ := V
  exact Goes.via (fun t => Y.baloadBytes r.2.2.2.2.2.2 (by rw [eT]; exact A.1) (State.isArrayOf_alike r4.alike A.2.1) A.2.2 (inb_of v2 hj) (v4.at (inb_of v2 hj) hv) (g := mkF m pc Ls (.int j :: .ref a :: st)) rfl rfl hd t) g
/-- System.arraycopy of bytes -/
theorem Wd.acopy (X : Wd p l e R s m args below meth c Z a0 EL own n0 SA0 SA T h cells slots) {idx : Nat} {b : Addr} {k1 k2 : ClassId} {z1 z2 sp dp nn : Int32} {vs vd us : List Value} {d1 d2 : Value} (w1 : (Jvm.Cond.methodLink own idx Jvm.Stand.acN).before a0 Z = true) (w2 : (Jvm.Cond.native Jvm.Stand.acN).before a0 Z = true) (w3 : (Jvm.Cond.static Jvm.Stand.acN).before a0 Z = true) (w4 : (Jvm.Cond.initialized "java/lang/System").before a0 Z = true)
    (A : Arv Z h a k1 .byte z1 vs d1) (B : Arv Z h b k2 .byte z2 vd d2) (h1 : ¬ sp < 0) (h2 : ¬ dp < 0) (h3 : ¬ nn < 0) (h4 : sp.toNatClampNeg + nn.toNatClampNeg ≤ z1.toNatClampNeg) (h5 : dp.toNatClampNeg + nn.toNatClampNeg ≤ z2.toNatClampNeg)
    (hus : us = (List.range nn.toNatClampNeg).map fun i => vs.getD (sp.toNatClampNeg + i) d1) (hl : dp.toNatClampNeg + nn.toNatClampNeg ≤ vd.length) (q : b ∈ SA) (hsize : Ls.size = c.maxLocals) (hd : decode c.code pc = .ok (.invokestatic idx, 3)) (hf : 1 ≤ R.frames) (W : Nat) (hW : (st.map fun v => v.category).sum ≤ W) (hlo : W + 18 ≤ R.locals)
    (k : ∀ (T' : State) (h' : Heap), Wd p l e R s m args below meth c Z a0 EL own n0 SA0 SA T' h' cells slots → Keep h h' [b] → Arv Z h' b k2 .byte z2 (vd.take dp.toNatClampNeg ++ us ++ vd.drop (dp.toNatClampNeg + nn.toNatClampNeg)) d2 → Goes p.tables e below Q (T'.setTop (mkF m (pc + 3) Ls st))) : Goes p.tables e below Q (T.setTop (mkF m pc Ls (.int nn :: .int dp :: .ref b :: .int sp :: .ref a :: st))) := by
  have hsa := X.saf q
  obtain ⟨vm0, locs, k0, Y, eT, hS, hk, hZ, hown, hC, N, O, K, S, hEL, hx⟩ := X
  obtain ⟨T', h', L, Y', e', N', K', B', st'⟩ := cpA Y hx hZ hown w1 w2 w3 w4 eT A B (Or.inl ⟨rfl, rfl⟩) h1 h2 h3 h4 h5 hus hl N hsa.1 (g := mkF m pc Ls (.int nn :: .int dp :: .ref b :: .int sp :: .ref a :: st)) rfl hsize rfl hd hf (W := W) (by show 2 * 0 + _ ≤ _; omega) (by show W + (7 + 11) ≤ _; omega)
  have hq : ∀ x ∈ [b], x ∈ SA := fun x hx => by cases List.mem_singleton.mp hx; exact q
  have A' := CHr.keep K' (fun x q => (S x (hq x q)).1) hC.1
  exact Goes.via st' (k T' h' ⟨vm0, L, k0, Y', e', hS, Nat.le_trans hk K'.1, hZ, hown, hC.trans A', N', O.keep K' (fun x q => (S x (hq x q)).2.2.1), K.trans K' (fun x q => (S x (hq x q)).2.2.2), S.go A', hEL, hx⟩ K' B')
end Wide
end Own
namespace Own
open Jvm Jvm.ClassFile Sem Op Lib Jvm.Free Jvm.Stand Jvm.LawKit Jvm.RoadKit Bundle
section Wide
variable {p : Program} {l : Launch} {e : Env} {R : Room} {s : State} {m : MethodId} {args : Array Value} {below : List Frame} {meth : Method} {c : Code}
variable {Z : State} {a0 : Array Value} {EL : List (String × Nat)} {own : String} {n0 : Nat} {SA0 SA : List Addr} {T : State} {h : Heap} {cells slots : Nat} {Q : Outcome → State → Prop} {pc : Nat} {Ls : Array Slot} {st : List Value}
theorem Wd.iloadN (X : Wd p l e R s m args below meth c Z a0 EL own n0 SA0 SA T h cells slots) {k : Fin 4} {x : Int32} (hd : decode c.code pc = .ok (.iload_n k, 1)) (hl : Ls[k.val]? = some (.val (.int x))) (g : Goes p.tables e below Q (T.setTop (mkF m (pc + 1) Ls (.int x :: st)))) : Goes p.tables e below Q (T.setTop (mkF m pc Ls st)) := by
  exact Goes.via (fun t k => XS.iloadN X.here X.exec rfl hd hl k) g
theorem Wd.iload (X : Wd p l e R s m args below meth c Z a0 EL own n0 SA0 SA T h cells slots) {k : Nat} {x : Int32} (hd : decode c.code pc = .ok (.iload k, 2)) (hl : Ls[k]? = some (.val (.int x))) (g : Goes p.tables e below Q (T.setTop (mkF m (pc + 2) Ls (.int x :: st)))) : Goes p.tables e below Q (T.setTop (mkF m pc Ls st)) := by
  exact Goes.via (fun t k => XS.iload X.here X.exec rfl hd hl k) g
theorem Wd.aloadN (X : Wd p l e R s m args below meth c Z a0 EL own n0 SA0 SA T h cells slots) {k : Fin 4} {x : Value} (hd : decode c.code pc = .ok (.aload_n k, 1)) (hl : Ls[k.val]? = some (.val x)) (hv : x.isRef = true) (g : Goes p.tables e below Q (T.setTop (mkF m (pc + 1) Ls (x :: st)))) : Goes p.tables e below Q (T.setTop (mkF m pc Ls st)) := by
  exact Goes.via (fun t k => XS.aloadN X.here X.exec rfl hd hl hv k) g
theorem Wd.aload (X : Wd p l e R s m args below meth c Z a0 EL own n0 SA0 SA T h cells slots) {k : Nat} {x : Value} (hd : decode c.code pc = .ok (.aload k, 2)) (hl : Ls[k]? = some (.val x)) (hv : x.isRef = true) (g : Goes p.tables e below Q (T.setTop (mkF m (pc + 2) Ls (x :: st)))) : Goes p.tables e below Q (T.setTop (mkF m pc Ls st)) := by
  exact Goes.via (fun t k => XS.aload X.here X.exec rfl hd hl hv k) g
theorem Wd.iconst (X : Wd p l e R s m args below meth c Z a0 EL own n0 SA0 SA T h cells slots) {i : Int} {x : Int32} (hd : decode c.code pc = .ok (.iconst i, 1)) (hv : Int32.ofInt i = x) (g : Goes p.tables e below Q (T.setTop (mkF m (pc + 1) Ls (.int x :: st)))) : Goes p.tables e below Q (T.setTop (mkF m pc Ls st)) := by
  subst hv
  exact Goes.via (fun t k => XS.iconst X.here X.exec rfl hd k) g
theorem Wd.bipush (X : Wd p l e R s m args below meth c Z a0 EL own n0 SA0 SA T h cells slots) {i : Int} {x : Int32} (hd : decode c.code pc = .ok (.bipush i, 2)) (hv : (Int8.ofInt i).toInt32 = x) (g : Goes p.tables e below Q (T.setTop (mkF m (pc + 2) Ls (.int x :: st)))) : Goes p.tables e below Q (T.setTop (mkF m pc Ls st)) := by
  subst hv
  exact Goes.via (fun t k => XS.bipush X.here X.exec rfl hd k) g
theorem Wd.sipush (X : Wd p l e R s m args below meth c Z a0 EL own n0 SA0 SA T h cells slots) {i : Int} {x : Int32} (hd : decode c.code pc = .ok (.sipush i, 3)) (hv : (Int16.ofInt i).toInt32 = x) (g : Goes p.tables e below Q (T.setTop (mkF m (pc + 3) Ls (.int x :: st)))) : Goes p.tables e below Q (T.setTop (mkF m pc Ls st)) := by
  subst hv
  exact Goes.via (fun t k => XS.sipush X.here X.exec rfl hd k) g
theorem Wd.anull (X : Wd p l e R s m args below meth c Z a0 EL own n0 SA0 SA T h cells slots)  (hd : decode c.code pc = .ok (.aconst_null, 1))  (g : Goes p.tables e below Q (T.setTop (mkF m (pc + 1) Ls (.null :: st)))) : Goes p.tables e below Q (T.setTop (mkF m pc Ls st)) := by
  exact Goes.via (fun t k => XS.aconstNull X.here X.exec rfl hd k) g
theorem Wd.istoreN (X : Wd p l e R s m args below meth c Z a0 EL own n0 SA0 SA T h cells slots) {k : Fin 4} {x : Int32} (l' : Array Slot) (hd : decode c.code pc = .ok (.istore_n k, 1)) (hl : storeLocals Ls k.val (.int x) = some l') (g : Goes p.tables e below Q (T.setTop (mkF m (pc + 1) l' st))) : Goes p.tables e below Q (T.setTop (mkF m pc Ls (.int x :: st))) := by
  exact Goes.via (fun t k => XS.istoreN X.here X.exec rfl hd rfl hl k) g
theorem Wd.istore (X : Wd p l e R s m args below meth c Z a0 EL own n0 SA0 SA T h cells slots) {k : Nat} {x : Int32} (l' : Array Slot) (hd : decode c.code pc = .ok (.istore k, 2)) (hl : storeLocals Ls k (.int x) = some l') (g : Goes p.tables e below Q (T.setTop (mkF m (pc + 2) l' st))) : Goes p.tables e below Q (T.setTop (mkF m pc Ls (.int x :: st))) := by
  exact Goes.via (fun t k => XS.istore X.here X.exec rfl hd rfl hl k) g
theorem Wd.astoreN (X : Wd p l e R s m args below meth c Z a0 EL own n0 SA0 SA T h cells slots) {k : Fin 4} {x : Value} (l' : Array Slot) (hd : decode c.code pc = .ok (.astore_n k, 1)) (hv : x.isRef = true) (hl : storeLocals Ls k.val x = some l') (g : Goes p.tables e below Q (T.setTop (mkF m (pc + 1) l' st))) : Goes p.tables e below Q (T.setTop (mkF m pc Ls (x :: st))) := by
  exact Goes.via (fun t k => XS.astoreN X.here X.exec rfl hd rfl hv hl k) g
theorem Wd.astore (X : Wd p l e R s m args below meth c Z a0 EL own n0 SA0 SA T h cells slots) {k : Nat} {x : Value} (l' : Array Slot) (hd : decode c.code pc = .ok (.astore k, 2)) (hv : x.isRef = true) (hl : storeLocals Ls k x = some l') (g : Goes p.tables e below Q (T.setTop (mkF m (pc + 2) l' st))) : Goes p.tables e below Q (T.setTop (mkF m pc Ls (x :: st))) := by
  exact Goes.via (fun t k => XS.astore X.here X.exec rfl hd rfl hv hl k) g
theorem Wd.iadd (X : Wd p l e R s m args below meth c Z a0 EL own n0 SA0 SA T h cells slots) {x y : Int32} (hd : decode c.code pc = .ok (.iadd, 1))  (g : Goes p.tables e below Q (T.setTop (mkF m (pc + 1) Ls (.int (x + y) :: st)))) : Goes p.tables e below Q (T.setTop (mkF m pc Ls (.int y :: .int x :: st))) := by
  exact Goes.via (fun t k => XS.iadd X.here X.exec rfl hd rfl k) g
theorem Wd.isub (X : Wd p l e R s m args below meth c Z a0 EL own n0 SA0 SA T h cells slots) {x y : Int32} (hd : decode c.code pc = .ok (.isub, 1))  (g : Goes p.tables e below Q (T.setTop (mkF m (pc + 1) Ls (.int (x - y) :: st)))) : Goes p.tables e below Q (T.setTop (mkF m pc Ls (.int y :: .int x :: st))) := by
  exact Goes.via (fun t k => XS.isub X.here X.exec rfl hd rfl k) g
theorem Wd.iand (X : Wd p l e R s m args below meth c Z a0 EL own n0 SA0 SA T h cells slots) {x y : Int32} (hd : decode c.code pc = .ok (.iand, 1))  (g : Goes p.tables e below Q (T.setTop (mkF m (pc + 1) Ls (.int (x &&& y) :: st)))) : Goes p.tables e below Q (T.setTop (mkF m pc Ls (.int y :: .int x :: st))) := by
  exact Goes.via (fun t k => XS.iand X.here X.exec rfl hd rfl k) g
theorem Wd.imul (X : Wd p l e R s m args below meth c Z a0 EL own n0 SA0 SA T h cells slots) {x y : Int32} (hd : decode c.code pc = .ok (.imul, 1))  (g : Goes p.tables e below Q (T.setTop (mkF m (pc + 1) Ls (.int (x * y) :: st)))) : Goes p.tables e below Q (T.setTop (mkF m pc Ls (.int y :: .int x :: st))) := by
  exact Goes.via (fun t k => XS.imul X.here X.exec rfl hd rfl k) g
theorem Wd.ior (X : Wd p l e R s m args below meth c Z a0 EL own n0 SA0 SA T h cells slots) {x y : Int32} (hd : decode c.code pc = .ok (.ior, 1))  (g : Goes p.tables e below Q (T.setTop (mkF m (pc + 1) Ls (.int (x ||| y) :: st)))) : Goes p.tables e below Q (T.setTop (mkF m pc Ls (.int y :: .int x :: st))) := by
  exact Goes.via (fun t k => XT.ior X.here X.exec rfl hd rfl k) g
theorem Wd.ixor (X : Wd p l e R s m args below meth c Z a0 EL own n0 SA0 SA T h cells slots) {x y : Int32} (hd : decode c.code pc = .ok (.ixor, 1))  (g : Goes p.tables e below Q (T.setTop (mkF m (pc + 1) Ls (.int (x ^^^ y) :: st)))) : Goes p.tables e below Q (T.setTop (mkF m pc Ls (.int y :: .int x :: st))) := by
  exact Goes.via (fun t k => XT.ixor X.here X.exec rfl hd rfl k) g
theorem Wd.ishl (X : Wd p l e R s m args below meth c Z a0 EL own n0 SA0 SA T h cells slots) {x y : Int32} (hd : decode c.code pc = .ok (.ishl, 1))  (g : Goes p.tables e below Q (T.setTop (mkF m (pc + 1) Ls (.int (x <<< (y &&& 31)) :: st)))) : Goes p.tables e below Q (T.setTop (mkF m pc Ls (.int y :: .int x :: st))) := by
  exact Goes.via (fun t k => XT.ishl X.here X.exec rfl hd rfl k) g
theorem Wd.ishr (X : Wd p l e R s m args below meth c Z a0 EL own n0 SA0 SA T h cells slots) {x y : Int32} (hd : decode c.code pc = .ok (.ishr, 1))  (g : Goes p.tables e below Q (T.setTop (mkF m (pc + 1) Ls (.int (x >>> (y &&& 31)) :: st)))) : Goes p.tables e below Q (T.setTop (mkF m pc Ls (.int y :: .int x :: st))) := by
  exact Goes.via (fun t k => XT.ishr X.here X.exec rfl hd rfl k) g
theorem Wd.iushr (X : Wd p l e R s m args below meth c Z a0 EL own n0 SA0 SA T h cells slots) {x y : Int32} (hd : decode c.code pc = .ok (.iushr, 1))  (g : Goes p.tables e below Q (T.setTop (mkF m (pc + 1) Ls (.int (XT.ushr x y) :: st)))) : Goes p.tables e below Q (T.setTop (mkF m pc Ls (.int y :: .int x :: st))) := by
  exact Goes.via (fun t k => XT.iushr X.here X.exec rfl hd rfl k) g
theorem Wd.irem (X : Wd p l e R s m args below meth c Z a0 EL own n0 SA0 SA T h cells slots) {x y : Int32} (hd : decode c.code pc = .ok (.irem, 1)) (hy : y ≠ 0) (g : Goes p.tables e below Q (T.setTop (mkF m (pc + 1) Ls (.int (x % y) :: st)))) : Goes p.tables e below Q (T.setTop (mkF m pc Ls (.int y :: .int x :: st))) := by
  have hx := X.exec
  obtain ⟨vm0, locs, k0, Y, -⟩ := X
  exact Goes.via (fun t k => iremM Y hx (g := mkF m pc Ls (.int y :: .int x :: st)) rfl hd rfl hy k) g
theorem Wd.i2c (X : Wd p l e R s m args below meth c Z a0 EL own n0 SA0 SA T h cells slots) {x : Int32} (hd : decode c.code pc = .ok (.i2c, 1))  (g : Goes p.tables e below Q (T.setTop (mkF m (pc + 1) Ls (.int (x.toUInt32.toUInt16.toUInt32.toInt32) :: st)))) : Goes p.tables e below Q (T.setTop (mkF m pc Ls (.int x :: st))) := by
  exact Goes.via (fun t k => XT.i2c X.here X.exec rfl hd rfl k) g
theorem Wd.i2b (X : Wd p l e R s m args below meth c Z a0 EL own n0 SA0 SA T h cells slots) {x : Int32} (hd : decode c.code pc = .ok (.i2b, 1))  (g : Goes p.tables e below Q (T.setTop (mkF m (pc + 1) Ls (.int (x.toInt8.toInt32) :: st)))) : Goes p.tables e below Q (T.setTop (mkF m pc Ls (.int x :: st))) := by
  exact Goes.via (fun t k => XT.i2b X.here X.exec rfl hd rfl k) g
theorem Wd.dup (X : Wd p l e R s m args below meth c Z a0 EL own n0 SA0 SA T h cells slots) {x : Value} (hd : decode c.code pc = .ok (.dup, 1)) (hv : x.category = 1) (g : Goes p.tables e below Q (T.setTop (mkF m (pc + 1) Ls (x :: x :: st)))) : Goes p.tables e below Q (T.setTop (mkF m pc Ls (x :: st))) := by
  exact Goes.via (fun t k => XS.dup X.here X.exec rfl hd rfl hv k) g
theorem Wd.pop (X : Wd p l e R s m args below meth c Z a0 EL own n0 SA0 SA T h cells slots) {x : Value} (hd : decode c.code pc = .ok (.pop, 1)) (hv : x.category = 1) (g : Goes p.tables e below Q (T.setTop (mkF m (pc + 1) Ls st))) : Goes p.tables e below Q (T.setTop (mkF m pc Ls (x :: st))) := by
  exact Goes.via (fun t k => XT.pop X.here X.exec rfl hd rfl hv k) g
theorem Wd.iinc (X : Wd p l e R s m args below meth c Z a0 EL own n0 SA0 SA T h cells slots) {k : Nat} {cst : Int} {x : Int32} (l' : Array Slot) (hd : decode c.code pc = .ok (.iinc k cst, 3)) (hl : Ls[k]? = some (.val (.int x))) (hl' : storeLocals Ls k (.int (x + Int32.ofInt cst)) = some l') (g : Goes p.tables e below Q (T.setTop (mkF m (pc + 3) l' st))) : Goes p.tables e below Q (T.setTop (mkF m pc Ls st)) := by
  exact Goes.via (fun t k => XS.iinc X.here X.exec rfl hd hl hl' k) g
theorem Wd.goto (X : Wd p l e R s m args below meth c Z a0 EL own n0 SA0 SA T h cells slots) {o : Int} (pc' : Nat) (hd : decode c.code pc = .ok (.goto o, 3)) (hp : 0 ≤ (pc : Int) + o ∧ ((pc : Int) + o).toNat = pc') (g : Goes p.tables e below Q (T.setTop (mkF m pc' Ls st))) : Goes p.tables e below Q (T.setTop (mkF m pc Ls st)) :=
  Goes.via (fun t k => XS.goto X.here X.exec rfl rfl hd hp.1 hp.2 k) g
theorem Wd.if_eq (X : Wd p l e R s m args below meth c Z a0 EL own n0 SA0 SA T h cells slots) {x : Int32} {o : Int} (pc' : Nat) (hd : decode c.code pc = .ok (.ifCond .eq o, 3)) (hp : 0 ≤ (pc : Int) + o ∧ ((pc : Int) + o).toNat = pc') (kt : x = 0 → Goes p.tables e below Q (T.setTop (mkF m pc' Ls st))) (kf : ¬ x = 0 → Goes p.tables e below Q (T.setTop (mkF m (pc + 3) Ls st))) : Goes p.tables e below Q (T.setTop (mkF m pc Ls (.int x :: st))) := by
  by_cases hq : x = 0
  · exact Goes.via (fun t k => XS.ifYes X.here X.exec rfl rfl hd rfl (XT.i0_eq_t hq) hp.1 hp.2 k) (kt hq)
  · exact Goes.via (fun t k => XS.ifNo X.here X.exec rfl hd rfl (XT.i0_eq_f hq) k) (kf hq)
theorem Wd.icmp_eq (X : Wd p l e R s m args below meth c Z a0 EL own n0 SA0 SA T h cells slots) {x y : Int32} {o : Int} (pc' : Nat) (hd : decode c.code pc = .ok (.if_icmp .eq o, 3)) (hp : 0 ≤ (pc : Int) + o ∧ ((pc : Int) + o).toNat = pc') (kt : x = y → Goes p.tables e below Q (T.setTop (mkF m pc' Ls st))) (kf : ¬ x = y → Goes p.tables e below Q (T.setTop (mkF m (pc + 3) Ls st))) : Goes p.tables e below Q (T.setTop (mkF m pc Ls (.int y :: .int x :: st))) := by
  by_cases hq : x = y
  · exact Goes.via (fun t k => XS.icmpYes X.here X.exec rfl rfl hd rfl (XT.ii_eq_t hq) hp.1 hp.2 k) (kt hq)
  · exact Goes.via (fun t k => XS.icmpNo X.here X.exec rfl hd rfl (XT.ii_eq_f hq) k) (kf hq)
theorem Wd.if_ne (X : Wd p l e R s m args below meth c Z a0 EL own n0 SA0 SA T h cells slots) {x : Int32} {o : Int} (pc' : Nat) (hd : decode c.code pc = .ok (.ifCond .ne o, 3)) (hp : 0 ≤ (pc : Int) + o ∧ ((pc : Int) + o).toNat = pc') (kt : ¬ x = 0 → Goes p.tables e below Q (T.setTop (mkF m pc' Ls st))) (kf : x = 0 → Goes p.tables e below Q (T.setTop (mkF m (pc + 3) Ls st))) : Goes p.tables e below Q (T.setTop (mkF m pc Ls (.int x :: st))) := by
  by_cases hq : x = 0
  · exact Goes.via (fun t k => XS.ifNo X.here X.exec rfl hd rfl (XT.i0_ne_f hq) k) (kf hq)
  · exact Goes.via (fun t k => XS.ifYes X.here X.exec rfl rfl hd rfl (XT.i0_ne_t hq) hp.1 hp.2 k) (kt hq)
theorem Wd.icmp_ne (X : Wd p l e R s m args below meth c Z a0 EL own n0 SA0 SA T h cells slots) {x y : Int32} {o : Int} (pc' : Nat) (hd : decode c.code pc = .ok (.if_icmp .ne o, 3)) (hp : 0 ≤ (pc : Int) + o ∧ ((pc : Int) + o).toNat = pc') (kt : ¬ x = y → Goes p.tables e below Q (T.setTop (mkF m pc' Ls st))) (kf : x = y → Goes p.tables e below Q (T.setTop (mkF m (pc + 3) Ls st))) : Goes p.tables e below Q (T.setTop (mkF m pc Ls (.int y :: .int x :: st))) := by
  by_cases hq : x = y
  · exact Goes.via (fun t k => XS.icmpNo X.here X.exec rfl hd rfl (XT.ii_ne_f hq) k) (kf hq)
  · exact Goes.via (fun t k => XS.icmpYes X.here X.exec rfl rfl hd rfl (XT.ii_ne_t hq) hp.1 hp.2 k) (kt hq)
theorem Wd.if_lt (X : Wd p l e R s m args below meth c Z a0 EL own n0 SA0 SA T h cells slots) {x : Int32} {o : Int} (pc' : Nat) (hd : decode c.code pc = .ok (.ifCond .lt o, 3)) (hp : 0 ≤ (pc : Int) + o ∧ ((pc : Int) + o).toNat = pc') (kt : x < 0 → Goes p.tables e below Q (T.setTop (mkF m pc' Ls st))) (kf : ¬ x < 0 → Goes p.tables e below Q (T.setTop (mkF m (pc + 3) Ls st))) : Goes p.tables e below Q (T.setTop (mkF m pc Ls (.int x :: st))) := by
  by_cases hq : x < 0
  · exact Goes.via (fun t k => XS.ifYes X.here X.exec rfl rfl hd rfl (XT.i0_lt_t hq) hp.1 hp.2 k) (kt hq)
  · exact Goes.via (fun t k => XS.ifNo X.here X.exec rfl hd rfl (XT.i0_lt_f hq) k) (kf hq)
theorem Wd.icmp_lt (X : Wd p l e R s m args below meth c Z a0 EL own n0 SA0 SA T h cells slots) {x y : Int32} {o : Int} (pc' : Nat) (hd : decode c.code pc = .ok (.if_icmp .lt o, 3)) (hp : 0 ≤ (pc : Int) + o ∧ ((pc : Int) + o).toNat = pc') (kt : x < y → Goes p.tables e below Q (T.setTop (mkF m pc' Ls st))) (kf : ¬ x < y → Goes p.tables e below Q (T.setTop (mkF m (pc + 3) Ls st))) : Goes p.tables e below Q (T.setTop (mkF m pc Ls (.int y :: .int x :: st))) := by
  by_cases hq : x < y
  · exact Goes.via (fun t k => XS.icmpYes X.here X.exec rfl rfl hd rfl (XT.ii_lt_t hq) hp.1 hp.2 k) (kt hq)
  · exact Goes.via (fun t k => XS.icmpNo X.here X.exec rfl hd rfl (XT.ii_lt_f hq) k) (kf hq)
theorem Wd.if_ge (X : Wd p l e R s m args below meth c Z a0 EL own n0 SA0 SA T h cells slots) {x : Int32} {o : Int} (pc' : Nat) (hd : decode c.code pc = .ok (.ifCond .ge o, 3)) (hp : 0 ≤ (pc : Int) + o ∧ ((pc : Int) + o).toNat = pc') (kt : ¬ x < 0 → Goes p.tables e below Q (T.setTop (mkF m pc' Ls st))) (kf : x < 0 → Goes p.tables e below Q (T.setTop (mkF m (pc + 3) Ls st))) : Goes p.tables e below Q (T.setTop (mkF m pc Ls (.int x :: st))) := by
  by_cases hq : x < 0
  · exact Goes.via (fun t k => XS.ifNo X.here X.exec rfl hd rfl (XT.i0_ge_f hq) k) (kf hq)
  · exact Goes.via (fun t k => XS.ifYes X.here X.exec rfl rfl hd rfl (XT.i0_ge_t hq) hp.1 hp.2 k) (kt hq)
theorem Wd.icmp_ge (X : Wd p l e R s m args below meth c Z a0 EL own n0 SA0 SA T h cells slots) {x y : Int32} {o : Int} (pc' : Nat) (hd : decode c.code pc = .ok (.if_icmp .ge o, 3)) (hp : 0 ≤ (pc : Int) + o ∧ ((pc : Int) + o).toNat = pc') (kt : ¬ x < y → Goes p.tables e below Q (T.setTop (mkF m pc' Ls st))) (kf : x < y → Goes p.tables e below Q (T.setTop (mkF m (pc + 3) Ls st))) : Goes p.tables e below Q (T.setTop (mkF m pc Ls (.int y :: .int x :: st))) := by
  by_cases hq : x < y
  · exact Goes.via (fun t k => XS.icmpNo X.here X.exec rfl hd rfl (XT.ii_ge_f hq) k) (kf hq)
  · exact Goes.via (fun t k => XS.icmpYes X.here X.exec rfl rfl hd rfl (XT.ii_ge_t hq) hp.1 hp.2 k) (kt hq)
theorem Wd.if_gt (X : Wd p l e R s m args below meth c Z a0 EL own n0 SA0 SA T h cells slots) {x : Int32} {o : Int} (pc' : Nat) (hd : decode c.code pc = .ok (.ifCond .gt o, 3)) (hp : 0 ≤ (pc : Int) + o ∧ ((pc : Int) + o).toNat = pc') (kt : 0 < x → Goes p.tables e below Q (T.setTop (mkF m pc' Ls st))) (kf : ¬ 0 < x → Goes p.tables e below Q (T.setTop (mkF m (pc + 3) Ls st))) : Goes p.tables e below Q (T.setTop (mkF m pc Ls (.int x :: st))) := by
  by_cases hq : 0 < x
  · exact Goes.via (fun t k => XS.ifYes X.here X.exec rfl rfl hd rfl (XT.i0_gt_t hq) hp.1 hp.2 k) (kt hq)
  · exact Goes.via (fun t k => XS.ifNo X.here X.exec rfl hd rfl (XT.i0_gt_f hq) k) (kf hq)
theorem Wd.icmp_gt (X : Wd p l e R s m args below meth c Z a0 EL own n0 SA0 SA T h cells slots) {x y : Int32} {o : Int} (pc' : Nat) (hd : decode c.code pc = .ok (.if_icmp .gt o, 3)) (hp : 0 ≤ (pc : Int) + o ∧ ((pc : Int) + o).toNat = pc') (kt : y < x → Goes p.tables e below Q (T.setTop (mkF m pc' Ls st))) (kf : ¬ y < x → Goes p.tables e below Q (T.setTop (mkF m (pc + 3) Ls st))) : Goes p.tables e below Q (T.setTop (mkF m pc Ls (.int y :: .int x :: st))) := by
  by_cases hq : y < x
  · exact Goes.via (fun t k => XS.icmpYes X.here X.exec rfl rfl hd rfl (XT.ii_gt_t hq) hp.1 hp.2 k) (kt hq)
  · exact Goes.via (fun t k => XS.icmpNo X.here X.exec rfl hd rfl (XT.ii_gt_f hq) k) (kf hq)
theorem Wd.if_le (X : Wd p l e R s m args below meth c Z a0 EL own n0 SA0 SA T h cells slots) {x : Int32} {o : Int} (pc' : Nat) (hd : decode c.code pc = .ok (.ifCond .le o, 3)) (hp : 0 ≤ (pc : Int) + o ∧ ((pc : Int) + o).toNat = pc') (kt : ¬ 0 < x → Goes p.tables e below Q (T.setTop (mkF m pc' Ls st))) (kf : 0 < x → Goes p.tables e below Q (T.setTop (mkF m (pc + 3) Ls st))) : Goes p.tables e below Q (T.setTop (mkF m pc Ls (.int x :: st))) := by
  by_cases hq : 0 < x
  · exact Goes.via (fun t k => XS.ifNo X.here X.exec rfl hd rfl (XT.i0_le_f hq) k) (kf hq)
  · exact Goes.via (fun t k => XS.ifYes X.here X.exec rfl rfl hd rfl (XT.i0_le_t hq) hp.1 hp.2 k) (kt hq)
theorem Wd.icmp_le (X : Wd p l e R s m args below meth c Z a0 EL own n0 SA0 SA T h cells slots) {x y : Int32} {o : Int} (pc' : Nat) (hd : decode c.code pc = .ok (.if_icmp .le o, 3)) (hp : 0 ≤ (pc : Int) + o ∧ ((pc : Int) + o).toNat = pc') (kt : ¬ y < x → Goes p.tables e below Q (T.setTop (mkF m pc' Ls st))) (kf : y < x → Goes p.tables e below Q (T.setTop (mkF m (pc + 3) Ls st))) : Goes p.tables e below Q (T.setTop (mkF m pc Ls (.int y :: .int x :: st))) := by
  by_cases hq : y < x
  · exact Goes.via (fun t k => XS.icmpNo X.here X.exec rfl hd rfl (XT.ii_le_f hq) k) (kf hq)
  · exact Goes.via (fun t k => XS.icmpYes X.here X.exec rfl rfl hd rfl (XT.ii_le_t hq) hp.1 hp.2 k) (kt hq)
theorem Wd.ifnullR (X : Wd p l e R s m args below meth c Z a0 EL own n0 SA0 SA T h cells slots) {b : Addr} {o : Int} (hd : decode c.code pc = .ok (.ifnull o, 3)) (g : Goes p.tables e below Q (T.setTop (mkF m (pc + 3) Ls st))) : Goes p.tables e below Q (T.setTop (mkF m pc Ls (.ref b :: st))) :=
  Goes.via (fun t k => XS.ifnullNo X.here X.exec rfl hd rfl k) g
theorem Wd.ifnullN (X : Wd p l e R s m args below meth c Z a0 EL own n0 SA0 SA T h cells slots) {o : Int} (pc' : Nat) (hd : decode c.code pc = .ok (.ifnull o, 3)) (hp : 0 ≤ (pc : Int) + o ∧ ((pc : Int) + o).toNat = pc') (g : Goes p.tables e below Q (T.setTop (mkF m pc' Ls st))) : Goes p.tables e below Q (T.setTop (mkF m pc Ls (.null :: st))) :=
  Goes.via (fun t k => XS.ifnullYes X.here X.exec rfl rfl hd rfl hp.1 hp.2 k) g
theorem Wd.ifnonnullR (X : Wd p l e R s m args below meth c Z a0 EL own n0 SA0 SA T h cells slots) {b : Addr} {o : Int} (pc' : Nat) (hd : decode c.code pc = .ok (.ifnonnull o, 3)) (hp : 0 ≤ (pc : Int) + o ∧ ((pc : Int) + o).toNat = pc') (g : Goes p.tables e below Q (T.setTop (mkF m pc' Ls st))) : Goes p.tables e below Q (T.setTop (mkF m pc Ls (.ref b :: st))) :=
  Goes.via (fun t k => XT.ifnonnullYes X.here X.exec rfl rfl hd rfl hp.1 hp.2 k) g
theorem Wd.ifnonnullN (X : Wd p l e R s m args below meth c Z a0 EL own n0 SA0 SA T h cells slots) {o : Int} (hd : decode c.code pc = .ok (.ifnonnull o, 3)) (g : Goes p.tables e below Q (T.setTop (mkF m (pc + 3) Ls st))) : Goes p.tables e below Q (T.setTop (mkF m pc Ls (.null :: st))) :=
  Goes.via (fun t k => XT.ifnonnullNo X.here X.exec rfl hd rfl k) g
theorem Wd.acmp_eq (X : Wd p l e R s m args below meth c Z a0 EL own n0 SA0 SA T h cells slots) {x y : Value} {o : Int} (pc' : Nat) (hd : decode c.code pc = .ok (.if_acmp .eq o, 3)) (hp : 0 ≤ (pc : Int) + o ∧ ((pc : Int) + o).toNat = pc') (hx : x.isRef = true) (hy : y.isRef = true) (kt : x = y → Goes p.tables e below Q (T.setTop (mkF m pc' Ls st))) (kf : ¬ x = y → Goes p.tables e below Q (T.setTop (mkF m (pc + 3) Ls st))) : Goes p.tables e below Q (T.setTop (mkF m pc Ls (y :: x :: st))) := by
  by_cases hq : x = y
  · exact Goes.via (fun t k => XT.acmpYes X.here X.exec rfl rfl hd rfl hx hy (XT.aa_eq_t hq) hp.1 hp.2 k) (kt hq)
  · exact Goes.via (fun t k => XT.acmpNo X.here X.exec rfl hd rfl hx hy (XT.aa_eq_f hq) k) (kf hq)
theorem Wd.acmp_ne (X : Wd p l e R s m args below meth c Z a0 EL own n0 SA0 SA T h cells slots) {x y : Value} {o : Int} (pc' : Nat) (hd : decode c.code pc = .ok (.if_acmp .ne o, 3)) (hp : 0 ≤ (pc : Int) + o ∧ ((pc : Int) + o).toNat = pc') (hx : x.isRef = true) (hy : y.isRef = true) (kt : ¬ x = y → Goes p.tables e below Q (T.setTop (mkF m pc' Ls st))) (kf : x = y → Goes p.tables e below Q (T.setTop (mkF m (pc + 3) Ls st))) : Goes p.tables e below Q (T.setTop (mkF m pc Ls (y :: x :: st))) := by
  by_cases hq : x = y
  · exact Goes.via (fun t k => XT.acmpNo X.here X.exec rfl hd rfl hx hy (XT.aa_ne_f hq) k) (kf hq)
  · exact Goes.via (fun t k => XT.acmpYes X.here X.exec rfl rfl hd rfl hx hy (XT.aa_ne_t hq) hp.1 hp.2 k) (kt hq)
end Wide
end Own
namespace Own
open Jvm Jvm.ClassFile Sem Op Lib Jvm.Free Jvm.Stand Jvm.LawKit Jvm.RoadKit Bundle
section Facts
variable {Z : State} {h h' : Heap} {a b t x y : Addr} {cs : List Int32} {C : String} {a0 : Array Value} {k k' : ClassId} {ty ty' : FieldType} {n n' : Int32} {vs vs' : List Value} {dv dv' v : Value} {sl : Nat} {ws : List Addr}
theorem arvTy (A : Arv Z h a k ty n vs dv) (B : Arv Z h b k' ty' n' vs' dv') (q : ty ≠ ty') : a ≠ b := fun e => by
  subst e
  obtain ⟨c1, ⟨h1, ⟨-, k1, h2, m1, h3⟩, -⟩, -⟩ := A
  obtain ⟨c2, ⟨g1, ⟨-, k2, g2, m2, g3⟩, -⟩, -⟩ := B
  cases h1.symm.trans g1
  cases h2.symm.trans g2
  rw [h3] at g3
  cases g3
  exact q rfl
theorem narR {t : FieldType} {v : Value} (hv : v.isRef = true) (ht : t.isReference = true := by rfl) : narrow t v = v := by cases t <;> cases v <;> first | rfl | (cases hv; done) | (cases ht; done)
theorem fitR {t : FieldType} {v : Value} (hv : v.isRef = true) (ht : t.isReference = true := by rfl) : fits t v = true := by cases t <;> cases v <;> first | rfl | (cases hv; done) | (cases ht; done)
/-- a is a Latin-1 String that spells cs; its bytes lie at t -/
def OStr (Z : State) (h : Heap) (a t : Addr) (cs : List Int32) : Prop := Exa Z h a "java/lang/String" ∧ (∀ c ∈ cs, ¬ c < 0 ∧ ¬ (255 : Int32) < c) ∧ cs.length ≤ 4000 ∧
  ∃ kb : ClassId, Fld Z h a "java/lang/String" "value" "[B" (.ref t) ∧ Fld Z h a "java/lang/String" "coder" "B" (.int (0 : Int32)) ∧ Arv Z h t kb .byte (Int32.ofNat cs.length) ((cs.map StrChars.lo8).map Value.int) (.int 0)
theorem up16 {cs : List Int32} (hp : ∀ c ∈ cs, ¬ c < 0 ∧ ¬ (255 : Int32) < c) : ∀ c ∈ cs, ¬ c < 0 ∧ ¬ (65535 : Int32) < c := fun c q => ⟨(hp c q).1, fun z => (hp c q).2 (Int32.lt_trans (by decide) z)⟩
theorem OStr.lt (F : OStr Z h a t cs) : a < h.size := F.1.lt
theorem OStr.ltb (F : OStr Z h a t cs) : t < h.size := by obtain ⟨-, -, -, _, -, -, A⟩ := F; exact A.lt
theorem OStr.ext (F : OStr Z h a t cs) (E : Ext h h') : OStr Z h' a t cs := by
  obtain ⟨h1, h2, h3, kb, h4, h5, h6⟩ := F
  exact ⟨h1.ext E, h2, h3, kb, h4.ext E, h5.ext E, h6.ext E⟩
theorem OStr.wr (F : OStr Z h a t cs) (W : Wr h h' x sl v) (q1 : a ≠ x) (q2 : t ≠ x) : OStr Z h' a t cs := by
  obtain ⟨h1, h2, h3, kb, h4, h5, h6⟩ := F
  exact ⟨h1.wr W, h2, h3, kb, h4.other W (Or.inl q1), h5.other W (Or.inl q1), h6.other W q2⟩
theorem OStr.keep (F : OStr Z h a t cs) (K : Keep h h' ws) (q1 : a ∉ ws) (q2 : t ∉ ws) : OStr Z h' a t cs := by
  obtain ⟨h1, h2, h3, kb, h4, h5, h6⟩ := F
  exact ⟨h1.keep K, h2, h3, kb, h4.keep K q1, h5.keep K q1, h6.keep K q2⟩
theorem OStr.neT {kk : Nat} (F : OStr Z h a t cs) (E : Exa Z h x C) (w : (Jvm.Cond.instantiable C kk).before a0 Z = true) : t ≠ x := by
  obtain ⟨-, -, -, kb, -, -, h6⟩ := F
  exact (E.neArv h6 w).symm
theorem OStr.neTA (F : OStr Z h a t cs) (A : Arv Z h x k ty n vs dv) (q : FieldType.byte ≠ ty) : t ≠ x := by
  obtain ⟨-, -, -, kb, -, -, h6⟩ := F
  exact arvTy h6 A q
theorem OStr.mk {kb : ClassId} (E : Exa Z h a "java/lang/String") (V : Fld Z h a "java/lang/String" "value" "[B" (.ref t)) (C : Fld Z h a "java/lang/String" "coder" "B" (.int (0 : Int32))) (A : Arv Z h t kb .byte (Int32.ofNat cs.length) ((cs.map StrChars.lo8).map Value.int) (.int 0)) (hp : ∀ c ∈ cs, ¬ c < 0 ∧ ¬ (255 : Int32) < c) (l2 : cs.length ≤ 4000) : OStr Z h a t cs :=
  ⟨E, hp, l2, kb, V, C, A⟩
end Facts
section Wide
variable {p : Program} {l : Launch} {e : Env} {R : Room} {s : State} {m : MethodId} {args : Array Value} {below : List Frame} {meth : Method} {c : Code}
variable {Z : State} {a0 : Array Value} {EL : List (String × Nat)} {own : String} {n0 : Nat} {SA0 SA : List Addr} {T : State} {h h' : Heap} {cells slots : Nat} {Q : Outcome → State → Prop} {pc : Nat} {Ls : Array Slot} {st : List Value} {vm0 vm1 : Vm} {a b : Addr} {sl : Nat} {v : Value}
abbrev sI1 : MethodName := ⟨"java/lang/String", "<init>", "([C)V"⟩
theorem pdI1 : parseMethodDescriptor "([C)V" = some ⟨[.array .char], none⟩ := by decide +kernel
/-- new String(char[]), one to 4000 chars, each 0 to 255 -/
theorem Wd.newStr (X : Wd p l e R s m args below meth c Z a0 EL own n0 SA0 SA T h cells slots) {idx : Nat} {kC : ClassId} {cs : List Int32} {d v0 c0 : Value} {z N : Int32} (n : Nat) (w1 : (Jvm.Cond.methodLink own idx sI1).before a0 Z = true) (w2 : (Jvm.Cond.instanceMethod sI1).before a0 Z = true)
    (hws : ∀ d ∈ StrChars.Road.words, d.before a0 Z = true) (wi : (Jvm.Cond.instantiable "java/lang/String" 4).before a0 Z = true) (E : Exa Z h a "java/lang/String") (V : Fld Z h a "java/lang/String" "value" "[B" v0) (C : Fld Z h a "java/lang/String" "coder" "B" c0) (K : Arv Z h b kC .char N (cs.map Value.int) d)
    (S0 : Sta Z Z.heap "java/lang/String" "COMPACT_STRINGS" "Z" (.int z)) (hz : ¬ z = 0) (hn : cs.length = n) (hN : N = Int32.ofNat n) (l0 : 0 < n) (l2 : n ≤ 4000) (hp : ∀ c ∈ cs, ¬ c < 0 ∧ ¬ (255 : Int32) < c) (q : a ∈ SA) (hfr : 4 ≤ R.frames) (W : Nat) (hW : (st.map fun v => v.category).sum ≤ W) (hlo : W + 65 ≤ R.locals)
    (hcl : cells + 1 ≤ R.cells) (hsl : slots + n ≤ R.slots) (hsize : Ls.size = c.maxLocals) (hd : decode c.code pc = .ok (.invokespecial idx, 3))
    (k : ∀ (T' : State) (h' : Heap) (t : Addr), Wd p l e R s m args below meth c Z a0 EL own n0 SA0 SA T' h' (cells + 1) (slots + n) → Keep h h' [a] → h.size ≤ t → OStr Z h' a t cs → Goes p.tables e below Q (T'.setTop (mkF m (pc + 3) Ls st))) : Goes p.tables e below Q (T.setTop (mkF m pc Ls (.ref b :: .ref a :: st))) := by
  have hn0 := X.n0h
  have hsa := X.saf q
  obtain ⟨vm0, locs, k0, Y, eT, hS, hk, hZ, hown, hC, N', O, K', S, hEL, hx⟩ := X
  obtain ⟨_, vm1, ⟨T', L', c', s'⟩, -, Y', ⟨L, ⟨rfl, hL, Kp, E', C', t, kb, -, g2, -, V', A'⟩, rfl, rfl, rfl⟩, st'⟩ := Y.specialBack hx (y := sI1) rfl hown (mvT hZ w1) (mvT hZ w2) (mvT hZ (hws _ (List.mem_cons_self ..))) (by decide)
    (StrChars.Road.backV (W := W) (n0 := n0) hZ hws wi hsa.1 hn0 E V C K (Sta.ext O.2 S0) hz hn hN l0 l2 hp rfl hfr hlo) (g := mkF m pc Ls (.ref b :: .ref a :: st)) rfl hsize (Steps.refl _) (a := a) (argsL := [.ref b]) (rest := st) (lenOf pdI1 rfl) rfl (by show 2 * 0 + _ ≤ _; omega) hd (fun _ _ => ⟨rfl, eT, hcl, hsl⟩)
  subst hn hN
  exact Goes.aft st' (k T' T'.heap t (backN hS hk hZ hown hC N' O K' S hEL hx Y' hL Kp (fun x hx => by cases List.mem_singleton.mp hx; exact q)) Kp g2 (OStr.mk E' V' C' A' hp l2))
end Wide
end Own
namespace Own
open Jvm Jvm.ClassFile Sem Op Lib Jvm.Free Jvm.Stand Jvm.LawKit Jvm.RoadKit Bundle
/-- (char) x -/
def i2c (x : Int32) : Int32 := x.toUInt32.toUInt16.toUInt32.toInt32
/-- (char) (x & 255) -/
def c8 (x : Int32) : Int32 := (x &&& (255 : Int32)).toUInt32.toUInt16.toUInt32.toInt32
theorem nar_i2c (x : Int32) : nar .char (i2c x) = i2c x := by
  have q := XT.narrow_c x
  simp only [nar, i2c, UInt32.toUInt32_toInt32, UInt16.toUInt16_toUInt32]
theorem nar_lo8 (x : Int32) : nar .byte (StrChars.lo8 x) = StrChars.lo8 x := by
  show (x.toInt8.toInt32).toInt8.toInt32 = x.toInt8.toInt32
  rw [Int8.toInt8_toInt32]
theorem nar_c8 (x : Int32) : nar .char (c8 x) = c8 x := nar_i2c (x &&& 255)
theorem i2c_nat (x : Int32) : (i2c x).toBitVec.toNat = x.toBitVec.toNat % 65536 := by
  show (x.toUInt32.toUInt16.toUInt32).toNat = _
  simp
  rfl
theorem nat_rng {x : Int32} {n : Nat} (h : x.toBitVec.toNat ≤ n) (hn : n < 2 ^ 31) : x.toInt = x.toBitVec.toNat := by
  show x.toBitVec.toInt = _
  rw [BitVec.toInt_eq_toNat_cond]; split <;> omega
theorem i2c_int (x : Int32) : (i2c x).toInt = ((x.toBitVec.toNat % 65536 : Nat) : Int) := by
  rw [nat_rng (n := 65535) (by rw [i2c_nat]; omega) (by decide), i2c_nat]
theorem i2c_rng (x : Int32) : ¬ i2c x < 0 ∧ ¬ (65535 : Int32) < i2c x := by
  simp only [Int32.lt_iff_toInt_lt, i2c_int, show (0 : Int32).toInt = 0 from rfl, show (65535 : Int32).toInt = 65535 from rfl]
  omega
theorem and_nat (x y : Int32) : (x &&& y).toBitVec.toNat = x.toBitVec.toNat &&& y.toBitVec.toNat := by
  rw [Int32.toBitVec_and, BitVec.toNat_and]
theorem c8_int (x : Int32) : (c8 x).toInt = ((x.toBitVec.toNat % 256 : Nat) : Int) := by
  show (i2c (x &&& 255)).toInt = _
  rw [i2c_int, and_nat, show (255 : Int32).toBitVec.toNat = 2 ^ 8 - 1 from rfl, Nat.and_two_pow_sub_one_eq_mod]
  have : x.toBitVec.toNat % 2 ^ 8 < 256 := Nat.mod_lt _ (by decide)
  rw [Nat.mod_eq_of_lt (a := x.toBitVec.toNat % 2 ^ 8) (by omega)]
theorem c8_rng (x : Int32) : ¬ c8 x < 0 ∧ ¬ (255 : Int32) < c8 x := by
  simp only [Int32.lt_iff_toInt_lt, c8_int, show (0 : Int32).toInt = 0 from rfl, show (255 : Int32).toInt = 255 from rfl]
  omega
theorem hp0 {P : Int32 → Prop} : ∀ c ∈ ([] : List Int32), P c := fun _ q => nomatch q
theorem hpS {P : Int32 → Prop} {x : Int32} {L : List Int32} (q : P x) (r : ∀ c ∈ L, P c) : ∀ c ∈ x :: L, P c := fun c z => (List.mem_cons.mp z).elim (fun u => u ▸ q) (r c)
end Own
end Jvm.Pilot.@@N@@
namespace Jvm.Pilot.@@N@@
open Jvm Jvm.ClassFile Sem Op Lib Jvm.Free Jvm.Stand Jvm.LawKit Jvm.RoadKit Bundle Jvm.Pilot.@@N@@.Jvm.D
open Own
theorem hEL_of {Z : State} {a0 : Array Value} (hw : ∀ d ∈ tables_1, d.before a0 Z = true) : EW Z a0 consts_1 := (EW.cons (hw _ (List.mem_of_getElem? (i := 22) rfl)) (by decide) EW.nil)
theorem leb {a b : Nat} (h : Nat.ble a b = true) : a ≤ b := Nat.le_of_ble_eq_true h
theorem hwsV : ∀ d ∈ StrChars.Road.words, d ∈ tables_1 := by decide +kernel
theorem hwS : ∀ d ∈ Bundle.stringAtoms, d ∈ tables_1 := by decide +kernel
theorem nar_sh0 (c : Int32) : nar .byte (StrChars.lo8 (c >>> ((0 : Int32) &&& 31))) = StrChars.lo8 c := by rw [nar_lo8, StrChars.shr0]
def Rc (x : Int32) : Prop := ¬ x < 0 ∧ ¬ (65535 : Int32) < x
theorem i2c_id {x : Int32} (h : Rc x) : i2c x = x := by
  apply Int32.toInt_inj.mp
  rw [i2c_int]
  obtain ⟨h1, h2⟩ := h
  simp only [Int32.lt_iff_toInt_lt, show (0 : Int32).toInt = 0 from rfl, show (65535 : Int32).toInt = 65535 from rfl] at h1 h2
  have e : x.toInt = x.toBitVec.toInt := rfl
  rw [BitVec.toInt_eq_toNat_cond] at e
  have := x.toBitVec.isLt
  split at e <;> omega
theorem nar_id {x : Int32} (h : Rc x) : nar .char x = x := i2c_id h
theorem ret_pair {x : Int32} (h : Rc x) : some (Value.int (nar .char (StrChars.pairCh (StrChars.lo8 x) (StrChars.hi8 x)))) = some (.int x) := by rw [StrChars.pair_says h.1 h.2, nar_id h]
theorem ret_lo {x : Int32} (h : Rc x) (h2 : ¬ (255 : Int32) < x) : some (Value.int (nar .char (StrChars.chr8 (StrChars.lo8 x)))) = some (.int x) := by rw [StrChars.chr8_lo8 h.1 h2, nar_id h]
theorem rem5 (y : Int32) : (y &&& 2147483647) % 5 = 0 ∨ (y &&& 2147483647) % 5 = 1 ∨ (y &&& 2147483647) % 5 = 2 ∨ (y &&& 2147483647) % 5 = 3 ∨ (y &&& 2147483647) % 5 = 4 := by
  have q := and_nat y 2147483647
  rw [show (2147483647 : Int32).toBitVec.toNat = 2 ^ 31 - 1 from rfl, Nat.and_two_pow_sub_one_eq_mod] at q
  have h : y.toBitVec.toNat % 2 ^ 31 < 2 ^ 31 := Nat.mod_lt _ (by decide)
  have e := nat_rng (x := y &&& 2147483647) (n := 2147483647) (by omega) (by decide)
  have e2 : ((y &&& 2147483647) % 5).toInt = (y &&& 2147483647).toInt % 5 := by
    rw [Int32.toInt_mod, show (5 : Int32).toInt = 5 from rfl, Int.tmod_eq_emod_of_nonneg (by omega)]
  have hk : ∀ k : Int32, ((y &&& 2147483647) % 5).toInt = k.toInt → (y &&& 2147483647) % 5 = k := fun k e => Int32.toInt_inj.mp e
  have e3 : ((y &&& 2147483647) % 5).toInt = 0 ∨ ((y &&& 2147483647) % 5).toInt = 1 ∨ ((y &&& 2147483647) % 5).toInt = 2 ∨ ((y &&& 2147483647) % 5).toInt = 3 ∨ ((y &&& 2147483647) % 5).toInt = 4 := by rw [e2]; omega
  rcases e3 with e3 | e3 | e3 | e3 | e3
  · exact Or.inl (hk 0 e3)
  · exact Or.inr (Or.inl (hk 1 e3))
  · exact Or.inr (Or.inr (Or.inl (hk 2 e3)))
  · exact Or.inr (Or.inr (Or.inr (Or.inl (hk 3 e3))))
  · exact Or.inr (Or.inr (Or.inr (Or.inr (hk 4 e3))))
/-- a is a UTF-16 String that spells cs; its bytes lie at t -/
def UStr (Z : State) (h : Heap) (a t : Addr) (cs : List Int32) : Prop := Exa Z h a "java/lang/String" ∧
  ∃ kb : ClassId, Fld Z h a "java/lang/String" "value" "[B" (.ref t) ∧ Fld Z h a "java/lang/String" "coder" "B" (.int (1 : Int32)) ∧ Arv Z h t kb .byte (Int32.ofNat (2 * cs.length)) (StrChars.Road.wideBytes cs) (.int 0)
/-- a is a String that spells cs, in either coding -/
def WStr (Z : State) (h : Heap) (a : Addr) (cs : List Int32) : Prop := (∃ t : Addr, OStr Z h a t cs) ∨ ∃ t : Addr, UStr Z h a t cs
theorem WStr.keep {Z : State} {h h' : Heap} {a : Addr} {cs : List Int32} (F : WStr Z h a cs) (K : Keep h h' []) : WStr Z h' a cs := by
  rcases F with ⟨t, O⟩ | ⟨t, E, kb, V, C, A⟩
  · exact Or.inl ⟨t, O.keep K nin0 nin0⟩
  · exact Or.inr ⟨t, E.keep K, kb, V.keep K nin0, C.keep K nin0, A.keep K nin0⟩
theorem WStr.exa {Z : State} {h : Heap} {a : Addr} {cs : List Int32} (F : WStr Z h a cs) : Exa Z h a "java/lang/String" := by
  rcases F with ⟨t, O⟩ | ⟨t, E, -⟩
  · exact O.1
  · exact E
def okP (x : Int32) : Prop := ¬ x < 32 ∧ ¬ (126 : Int32) < x
def AllP (P : Int32 → Prop) : List Int32 → Prop
  | [] => True
  | x :: xs => P x ∧ AllP P xs
def allP (cs : List Int32) : Prop := AllP okP cs
theorem d15_0 : decode jdk_41_method_11_code 0 = .ok (.iload_n 0, 1) := by decide +kernel
theorem d15_1 : decode jdk_41_method_11_code 1 = .ok (.ifCond .lt 8, 3) := by decide +kernel
theorem d15_4 : decode jdk_41_method_11_code 4 = .ok (.iload_n 0, 1) := by decide +kernel
theorem d15_5 : decode jdk_41_method_11_code 5 = .ok (.iload_n 1, 1) := by decide +kernel
theorem d15_6 : decode jdk_41_method_11_code 6 = .ok (.if_icmp .lt 10, 3) := by decide +kernel
theorem d15_9 : decode jdk_41_method_11_code 9 = .ok (.aload_n 2, 1) := by decide +kernel
theorem d15_10 : decode jdk_41_method_11_code 10 = .ok (.iload_n 0, 1) := by decide +kernel
theorem d15_11 : decode jdk_41_method_11_code 11 = .ok (.iload_n 1, 1) := by decide +kernel
theorem d15_12 : decode jdk_41_method_11_code 12 = .ok (.invokestatic 95, 3) := by decide +kernel
theorem d15_15 : decode jdk_41_method_11_code 15 = .ok (.athrow, 1) := by decide +kernel
theorem d15_16 : decode jdk_41_method_11_code 16 = .ok (.iload_n 0, 1) := by decide +kernel
theorem d15_17 : decode jdk_41_method_11_code 17 = .ok (.ireturn, 1) := by decide +kernel
theorem pn_0 : plainName "jdk/internal/util/Preconditions" = true := by first | (simp [plainName, overriddenIn]; done) | decide +kernel
set_option maxRecDepth 65536 in
set_option maxHeartbeats 40000000 in
theorem ctPre (l : Launch) (Z : State) (a0 : Array Value) (hw : ∀ d ∈ tables_1, d.before a0 Z = true) (hEL : EW Z a0 consts_1) (z0 : Int32) (S0 : Sta Z Z.heap "java/lang/String" "COMPACT_STRINGS" "Z" (.int z0)) (hz0 : ¬ z0 = 0) (fm : Value) (hfm : fm.isRef = true) (SF : Sta Z Z.heap "jdk/internal/util/Preconditions" "SIOOBE_FORMATTER" "Ljava/util/function/BiFunction;" fm) (i n : Int32) (h0 : Heap) (n0 : Nat) (hi0 : ¬ i < 0) (hin : i < n) :
    Ct l Z consts_1 [] (⟨"jdk/internal/util/Preconditions", "checkIndex", "(IILjava/util/function/BiFunction;)I"⟩ : MethodName) jdk_41_method_11_code 3 (some .int) ({ frames := 0, cells := 0, slots := 0, locals := 0 } : Room) #[(.int i), (.int n), fm] h0 n0 [] (fun v _ => v = some (.int i)) := by
  have w : ∀ {d : Jvm.Cond} (i : Nat), tables_1[i]? = some d → d.before a0 Z = true := fun i q => hw _ (List.mem_of_getElem? q)
  refine Ct.enter (plainFor_of_name pn_0) hEL ?_
  intro p e sS m below meth c T0 hby hml0 hret hlk hnm hs0 X0
  have hml : c.maxLocals = 3 := hml0
  have D : ∀ {pc : Nat} {r : Except DecodeError (Instr × Nat)}, decode jdk_41_method_11_code pc = r → decode c.code pc = r := fun q => hb hby q
  rw [show entryFrame m #[(.int i), (.int n), fm] 3 = mkF m 0 #[.val (.int i), .val (.int n), .val fm] [] from by cases fm <;> first | rfl | (simp [Value.isRef] at hfm; done)]
  refine X0.iloadN (x := i) (D d15_0) rfl ?_
  refine X0.if_lt 9 (D d15_1) ⟨by decide, by decide⟩ (fun hc => (hi0 hc).elim) (fun hn1 => ?_)
  refine X0.iloadN (x := i) (D d15_4) rfl ?_
  refine X0.iloadN (x := n) (D d15_5) rfl ?_
  refine X0.icmp_lt 16 (D d15_6) ⟨by decide, by decide⟩ (fun hn2 => ?_) (fun hc => (hc hin).elim)
  refine X0.iloadN (x := i) (D d15_16) rfl ?_
  exact X0.retI hret hlk (D d15_17) (by decide) (by decide) (rfl)
theorem d14_0 : decode jdk_42_method_155_code 0 = .ok (.iload_n 0, 1) := by decide +kernel
theorem d14_1 : decode jdk_42_method_155_code 1 = .ok (.iload_n 1, 1) := by decide +kernel
theorem d14_2 : decode jdk_42_method_155_code 2 = .ok (.getstatic 1053, 3) := by decide +kernel
theorem d14_5 : decode jdk_42_method_155_code 5 = .ok (.invokestatic 1059, 3) := by decide +kernel
theorem d14_8 : decode jdk_42_method_155_code 8 = .ok (.pop, 1) := by decide +kernel
theorem d14_9 : decode jdk_42_method_155_code 9 = .ok (.return_, 1) := by decide +kernel
theorem pn_1 : plainName "java/lang/String" = true := by first | (simp [plainName, overriddenIn]; done) | decide +kernel
theorem pd_0 : parseMethodDescriptor "(IILjava/util/function/BiFunction;)I" = some ⟨[.int, .int, (.object "java/util/function/BiFunction")], (some .int)⟩ := by decide +kernel
set_option maxRecDepth 65536 in
set_option maxHeartbeats 40000000 in
theorem ctSci (l : Launch) (Z : State) (a0 : Array Value) (hw : ∀ d ∈ tables_1, d.before a0 Z = true) (hEL : EW Z a0 consts_1) (z0 : Int32) (S0 : Sta Z Z.heap "java/lang/String" "COMPACT_STRINGS" "Z" (.int z0)) (hz0 : ¬ z0 = 0) (fm : Value) (hfm : fm.isRef = true) (SF : Sta Z Z.heap "jdk/internal/util/Preconditions" "SIOOBE_FORMATTER" "Ljava/util/function/BiFunction;" fm) (i n : Int32) (h0 : Heap) (n0 : Nat) (hi0 : ¬ i < 0) (hin : i < n) :
    Ct l Z consts_1 [] (⟨"java/lang/String", "checkIndex", "(II)V"⟩ : MethodName) jdk_42_method_155_code 2 none ({ frames := 1, cells := 0, slots := 0, locals := 14 } : Room) #[(.int i), (.int n)] h0 n0 [] (fun v _ => v = none) := by
  have w : ∀ {d : Jvm.Cond} (i : Nat), tables_1[i]? = some d → d.before a0 Z = true := fun i q => hw _ (List.mem_of_getElem? q)
  refine Ct.enter (plainFor_of_name pn_1) hEL ?_
  intro p e sS m below meth c T0 hby hml0 hret hlk hnm hs0 X0
  have hml : c.maxLocals = 2 := hml0
  have D : ∀ {pc : Nat} {r : Except DecodeError (Instr × Nat)}, decode jdk_42_method_155_code pc = r → decode c.code pc = r := fun q => hb hby q
  rw [show entryFrame m #[(.int i), (.int n)] 2 = mkF m 0 #[.val (.int i), .val (.int n)] [] from by first | (simp [entryFrame, mkF, argsToLocals, Value.category]; done) | rfl]
  refine X0.iloadN (x := i) (D d14_0) rfl ?_
  refine X0.iloadN (x := n) (D d14_1) rfl ?_
  refine X0.gets (w 70 rfl) Via.refl (Sta.ext X0.old.2 SF) (D d14_2) ?_
  intro T3 X4
  refine X4.calls [(.int i), (.int n), fm] [] (ctPre l Z a0 hw hEL z0 S0 hz0 fm hfm SF i n _ _ hi0 hin) (w 72 rfl) (w 73 rfl) (w 71 rfl) (w 74 rfl) (by decide) (fun _ q => nomatch q) (by decide) 0 (by decide) (by decide) (by decide) (lenOf pd_0 rfl) rfl (leb rfl) (by rw [hml]; rfl) (D d14_5) ?_
  rintro T5 h6 _ X8 K9 rfl
  show Goes p.tables e below _ (T5.setTop (mkF m 8 #[.val (.int i), .val (.int n)] [(.int i)]))
  refine X8.pop (D d14_8) rfl ?_
  exact X8.retn hret hlk (D d14_9) (by decide) (by decide) (rfl)
theorem d17_0 : decode jdk_42_method_152_code 0 = .ok (.getstatic 38, 3) := by decide +kernel
theorem d17_3 : decode jdk_42_method_152_code 3 = .ok (.ifCond .eq 10, 3) := by decide +kernel
theorem d17_6 : decode jdk_42_method_152_code 6 = .ok (.aload_n 0, 1) := by decide +kernel
theorem d17_7 : decode jdk_42_method_152_code 7 = .ok (.getfield 15, 3) := by decide +kernel
theorem d17_10 : decode jdk_42_method_152_code 10 = .ok (.goto 4, 3) := by decide +kernel
theorem d17_13 : decode jdk_42_method_152_code 13 = .ok (.iconst 1, 1) := by decide +kernel
theorem d17_14 : decode jdk_42_method_152_code 14 = .ok (.ireturn, 1) := by decide +kernel
set_option maxRecDepth 65536 in
set_option maxHeartbeats 40000000 in
theorem ctCdr0 (l : Launch) (Z : State) (a0 : Array Value) (hw : ∀ d ∈ tables_1, d.before a0 Z = true) (hEL : EW Z a0 consts_1) (z0 : Int32) (S0 : Sta Z Z.heap "java/lang/String" "COMPACT_STRINGS" "Z" (.int z0)) (hz0 : ¬ z0 = 0) (s : Addr) (h0 : Heap) (n0 : Nat) (F0 : Fld Z h0 s "java/lang/String" "coder" "B" (.int (0 : Int32))) :
    Ct l Z consts_1 [] (⟨"java/lang/String", "coder", "()B"⟩ : MethodName) jdk_42_method_152_code 1 (some .byte) ({ frames := 0, cells := 0, slots := 0, locals := 0 } : Room) #[(.ref s)] h0 n0 [] (fun v _ => v = some (.int (0 : Int32))) := by
  have w : ∀ {d : Jvm.Cond} (i : Nat), tables_1[i]? = some d → d.before a0 Z = true := fun i q => hw _ (List.mem_of_getElem? q)
  refine Ct.enter (plainFor_of_name pn_1) hEL ?_
  intro p e sS m below meth c T0 hby hml0 hret hlk hnm hs0 X0
  have hml : c.maxLocals = 1 := hml0
  have D : ∀ {pc : Nat} {r : Except DecodeError (Instr × Nat)}, decode jdk_42_method_152_code pc = r → decode c.code pc = r := fun q => hb hby q
  rw [show entryFrame m #[(.ref s)] 1 = mkF m 0 #[.val (.ref s)] [] from by first | (simp [entryFrame, mkF, argsToLocals, Value.category]; done) | rfl]
  refine X0.gets (w 39 rfl) Via.refl (Sta.ext X0.old.2 S0) (D d17_0) ?_
  intro T10 X11
  refine X11.if_eq 13 (D d17_3) ⟨by decide, by decide⟩ (fun hc => (hz0 hc).elim) (fun hn12 => ?_)
  refine X11.aloadN (x := (.ref s)) (D d17_6) rfl rfl ?_
  refine X11.getf (w 29 rfl) Via.refl F0 (D d17_7) ?_
  intro T13 X14
  refine X14.goto 14 (D d17_10) ⟨by decide, by decide⟩ ?_
  exact X14.reti hret (by simp) hlk (D d17_14) (by decide) (by decide) (rfl)
theorem d12_0 : decode jdk_42_method_154_code 0 = .ok (.getstatic 38, 3) := by decide +kernel
theorem d12_3 : decode jdk_42_method_154_code 3 = .ok (.ifCond .eq 14, 3) := by decide +kernel
theorem d12_6 : decode jdk_42_method_154_code 6 = .ok (.aload_n 0, 1) := by decide +kernel
theorem d12_7 : decode jdk_42_method_154_code 7 = .ok (.getfield 15, 3) := by decide +kernel
theorem d12_10 : decode jdk_42_method_154_code 10 = .ok (.ifCond .ne 7, 3) := by decide +kernel
theorem d12_13 : decode jdk_42_method_154_code 13 = .ok (.iconst 1, 1) := by decide +kernel
theorem d12_14 : decode jdk_42_method_154_code 14 = .ok (.goto 4, 3) := by decide +kernel
theorem d12_17 : decode jdk_42_method_154_code 17 = .ok (.iconst 0, 1) := by decide +kernel
theorem d12_18 : decode jdk_42_method_154_code 18 = .ok (.ireturn, 1) := by decide +kernel
set_option maxRecDepth 65536 in
set_option maxHeartbeats 40000000 in
theorem ctIsL0 (l : Launch) (Z : State) (a0 : Array Value) (hw : ∀ d ∈ tables_1, d.before a0 Z = true) (hEL : EW Z a0 consts_1) (z0 : Int32) (S0 : Sta Z Z.heap "java/lang/String" "COMPACT_STRINGS" "Z" (.int z0)) (hz0 : ¬ z0 = 0) (s : Addr) (h0 : Heap) (n0 : Nat) (F0 : Fld Z h0 s "java/lang/String" "coder" "B" (.int (0 : Int32))) :
    Ct l Z consts_1 [] (⟨"java/lang/String", "isLatin1", "()Z"⟩ : MethodName) jdk_42_method_154_code 1 (some .boolean) ({ frames := 0, cells := 0, slots := 0, locals := 0 } : Room) #[(.ref s)] h0 n0 [] (fun v _ => v = some (.int (1 : Int32))) := by
  have w : ∀ {d : Jvm.Cond} (i : Nat), tables_1[i]? = some d → d.before a0 Z = true := fun i q => hw _ (List.mem_of_getElem? q)
  refine Ct.enter (plainFor_of_name pn_1) hEL ?_
  intro p e sS m below meth c T0 hby hml0 hret hlk hnm hs0 X0
  have hml : c.maxLocals = 1 := hml0
  have D : ∀ {pc : Nat} {r : Except DecodeError (Instr × Nat)}, decode jdk_42_method_154_code pc = r → decode c.code pc = r := fun q => hb hby q
  rw [show entryFrame m #[(.ref s)] 1 = mkF m 0 #[.val (.ref s)] [] from by first | (simp [entryFrame, mkF, argsToLocals, Value.category]; done) | rfl]
  refine X0.gets (w 39 rfl) Via.refl (Sta.ext X0.old.2 S0) (D d12_0) ?_
  intro T15 X16
  refine X16.if_eq 17 (D d12_3) ⟨by decide, by decide⟩ (fun hc => (hz0 hc).elim) (fun hn17 => ?_)
  refine X16.aloadN (x := (.ref s)) (D d12_6) rfl rfl ?_
  refine X16.getf (w 29 rfl) Via.refl F0 (D d12_7) ?_
  intro T18 X19
  refine X19.if_ne 17 (D d12_10) ⟨by decide, by decide⟩ (fun hc20 => absurd hc20 (by decide)) (fun hc20 => ?_)
  refine X19.iconst (x := (1 : Int32)) (D d12_13) rfl ?_
  refine X19.goto 18 (D d12_14) ⟨by decide, by decide⟩ ?_
  exact X19.reti hret (by simp) hlk (D d12_18) (by decide) (by decide) (rfl)
set_option maxRecDepth 65536 in
set_option maxHeartbeats 40000000 in
theorem ctCdr1 (l : Launch) (Z : State) (a0 : Array Value) (hw : ∀ d ∈ tables_1, d.before a0 Z = true) (hEL : EW Z a0 consts_1) (z0 : Int32) (S0 : Sta Z Z.heap "java/lang/String" "COMPACT_STRINGS" "Z" (.int z0)) (hz0 : ¬ z0 = 0) (s : Addr) (h0 : Heap) (n0 : Nat) (F0 : Fld Z h0 s "java/lang/String" "coder" "B" (.int (1 : Int32))) :
    Ct l Z consts_1 [] (⟨"java/lang/String", "coder", "()B"⟩ : MethodName) jdk_42_method_152_code 1 (some .byte) ({ frames := 0, cells := 0, slots := 0, locals := 0 } : Room) #[(.ref s)] h0 n0 [] (fun v _ => v = some (.int (1 : Int32))) := by
  have w : ∀ {d : Jvm.Cond} (i : Nat), tables_1[i]? = some d → d.before a0 Z = true := fun i q => hw _ (List.mem_of_getElem? q)
  refine Ct.enter (plainFor_of_name pn_1) hEL ?_
  intro p e sS m below meth c T0 hby hml0 hret hlk hnm hs0 X0
  have hml : c.maxLocals = 1 := hml0
  have D : ∀ {pc : Nat} {r : Except DecodeError (Instr × Nat)}, decode jdk_42_method_152_code pc = r → decode c.code pc = r := fun q => hb hby q
  rw [show entryFrame m #[(.ref s)] 1 = mkF m 0 #[.val (.ref s)] [] from by first | (simp [entryFrame, mkF, argsToLocals, Value.category]; done) | rfl]
  refine X0.gets (w 39 rfl) Via.refl (Sta.ext X0.old.2 S0) (D d17_0) ?_
  intro T21 X22
  refine X22.if_eq 13 (D d17_3) ⟨by decide, by decide⟩ (fun hc => (hz0 hc).elim) (fun hn23 => ?_)
  refine X22.aloadN (x := (.ref s)) (D d17_6) rfl rfl ?_
  refine X22.getf (w 29 rfl) Via.refl F0 (D d17_7) ?_
  intro T24 X25
  refine X25.goto 14 (D d17_10) ⟨by decide, by decide⟩ ?_
  exact X25.reti hret (by simp) hlk (D d17_14) (by decide) (by decide) (rfl)
set_option maxRecDepth 65536 in
set_option maxHeartbeats 40000000 in
theorem ctIsL1 (l : Launch) (Z : State) (a0 : Array Value) (hw : ∀ d ∈ tables_1, d.before a0 Z = true) (hEL : EW Z a0 consts_1) (z0 : Int32) (S0 : Sta Z Z.heap "java/lang/String" "COMPACT_STRINGS" "Z" (.int z0)) (hz0 : ¬ z0 = 0) (s : Addr) (h0 : Heap) (n0 : Nat) (F0 : Fld Z h0 s "java/lang/String" "coder" "B" (.int (1 : Int32))) :
    Ct l Z consts_1 [] (⟨"java/lang/String", "isLatin1", "()Z"⟩ : MethodName) jdk_42_method_154_code 1 (some .boolean) ({ frames := 0, cells := 0, slots := 0, locals := 0 } : Room) #[(.ref s)] h0 n0 [] (fun v _ => v = some (.int (0 : Int32))) := by
  have w : ∀ {d : Jvm.Cond} (i : Nat), tables_1[i]? = some d → d.before a0 Z = true := fun i q => hw _ (List.mem_of_getElem? q)
  refine Ct.enter (plainFor_of_name pn_1) hEL ?_
  intro p e sS m below meth c T0 hby hml0 hret hlk hnm hs0 X0
  have hml : c.maxLocals = 1 := hml0
  have D : ∀ {pc : Nat} {r : Except DecodeError (Instr × Nat)}, decode jdk_42_method_154_code pc = r → decode c.code pc = r := fun q => hb hby q
  rw [show entryFrame m #[(.ref s)] 1 = mkF m 0 #[.val (.ref s)] [] from by first | (simp [entryFrame, mkF, argsToLocals, Value.category]; done) | rfl]
  refine X0.gets (w 39 rfl) Via.refl (Sta.ext X0.old.2 S0) (D d12_0) ?_
  intro T26 X27
  refine X27.if_eq 17 (D d12_3) ⟨by decide, by decide⟩ (fun hc => (hz0 hc).elim) (fun hn28 => ?_)
  refine X27.aloadN (x := (.ref s)) (D d12_6) rfl rfl ?_
  refine X27.getf (w 29 rfl) Via.refl F0 (D d12_7) ?_
  intro T29 X30
  refine X30.if_ne 17 (D d12_10) ⟨by decide, by decide⟩ (fun hc31 => ?_) (fun hc31 => absurd hc31 (by decide))
  refine X30.iconst (x := (0 : Int32)) (D d12_17) rfl ?_
  exact X30.reti hret (by simp) hlk (D d12_18) (by decide) (by decide) (rfl)
theorem d3_0 : decode jdk_42_method_149_code 0 = .ok (.aload_n 0, 1) := by decide +kernel
theorem d3_1 : decode jdk_42_method_149_code 1 = .ok (.invokespecial 1, 3) := by decide +kernel
theorem d3_4 : decode jdk_42_method_149_code 4 = .ok (.iload_n 3, 1) := by decide +kernel
theorem d3_5 : decode jdk_42_method_149_code 5 = .ok (.ifCond .ne 22, 3) := by decide +kernel
theorem d3_8 : decode jdk_42_method_149_code 8 = .ok (.aload_n 0, 1) := by decide +kernel
theorem d3_9 : decode jdk_42_method_149_code 9 = .ok (.ldc 7, 2) := by decide +kernel
theorem d3_11 : decode jdk_42_method_149_code 11 = .ok (.getfield 9, 3) := by decide +kernel
theorem d3_14 : decode jdk_42_method_149_code 14 = .ok (.putfield 9, 3) := by decide +kernel
theorem d3_17 : decode jdk_42_method_149_code 17 = .ok (.aload_n 0, 1) := by decide +kernel
theorem d3_18 : decode jdk_42_method_149_code 18 = .ok (.ldc 7, 2) := by decide +kernel
theorem d3_20 : decode jdk_42_method_149_code 20 = .ok (.getfield 15, 3) := by decide +kernel
theorem d3_23 : decode jdk_42_method_149_code 23 = .ok (.putfield 15, 3) := by decide +kernel
theorem d3_26 : decode jdk_42_method_149_code 26 = .ok (.return_, 1) := by decide +kernel
theorem d3_27 : decode jdk_42_method_149_code 27 = .ok (.getstatic 38, 3) := by decide +kernel
theorem d3_30 : decode jdk_42_method_149_code 30 = .ok (.ifCond .eq 28, 3) := by decide +kernel
theorem d3_33 : decode jdk_42_method_149_code 33 = .ok (.aload_n 1, 1) := by decide +kernel
theorem d3_34 : decode jdk_42_method_149_code 34 = .ok (.iload_n 2, 1) := by decide +kernel
theorem d3_35 : decode jdk_42_method_149_code 35 = .ok (.iload_n 3, 1) := by decide +kernel
theorem d3_36 : decode jdk_42_method_149_code 36 = .ok (.invokestatic 177, 3) := by decide +kernel
theorem d3_39 : decode jdk_42_method_149_code 39 = .ok (.astore 5, 2) := by decide +kernel
theorem d3_41 : decode jdk_42_method_149_code 41 = .ok (.aload_n 0, 1) := by decide +kernel
theorem d3_42 : decode jdk_42_method_149_code 42 = .ok (.aload 5, 2) := by decide +kernel
theorem d3_44 : decode jdk_42_method_149_code 44 = .ok (.iload_n 3, 1) := by decide +kernel
theorem d3_45 : decode jdk_42_method_149_code 45 = .ok (.invokestatic 47, 3) := by decide +kernel
theorem d3_48 : decode jdk_42_method_149_code 48 = .ok (.putfield 15, 3) := by decide +kernel
theorem d3_51 : decode jdk_42_method_149_code 51 = .ok (.aload_n 0, 1) := by decide +kernel
theorem d3_52 : decode jdk_42_method_149_code 52 = .ok (.aload 5, 2) := by decide +kernel
theorem d3_54 : decode jdk_42_method_149_code 54 = .ok (.putfield 9, 3) := by decide +kernel
theorem d3_57 : decode jdk_42_method_149_code 57 = .ok (.return_, 1) := by decide +kernel
theorem d3_58 : decode jdk_42_method_149_code 58 = .ok (.aload_n 0, 1) := by decide +kernel
theorem d3_59 : decode jdk_42_method_149_code 59 = .ok (.iconst 1, 1) := by decide +kernel
theorem d3_60 : decode jdk_42_method_149_code 60 = .ok (.putfield 15, 3) := by decide +kernel
theorem d3_63 : decode jdk_42_method_149_code 63 = .ok (.aload_n 0, 1) := by decide +kernel
theorem d3_64 : decode jdk_42_method_149_code 64 = .ok (.aload_n 1, 1) := by decide +kernel
theorem d3_65 : decode jdk_42_method_149_code 65 = .ok (.iload_n 2, 1) := by decide +kernel
theorem d3_66 : decode jdk_42_method_149_code 66 = .ok (.iload_n 3, 1) := by decide +kernel
theorem d3_67 : decode jdk_42_method_149_code 67 = .ok (.invokestatic 180, 3) := by decide +kernel
theorem d3_70 : decode jdk_42_method_149_code 70 = .ok (.putfield 9, 3) := by decide +kernel
theorem d3_73 : decode jdk_42_method_149_code 73 = .ok (.return_, 1) := by decide +kernel
set_option maxRecDepth 65536 in
set_option maxHeartbeats 40000000 in
theorem ctE4 (l : Launch) (Z : State) (a0 : Array Value) (hw : ∀ d ∈ tables_1, d.before a0 Z = true) (hEL : EW Z a0 consts_1) (z0 : Int32) (S0 : Sta Z Z.heap "java/lang/String" "COMPACT_STRINGS" "Z" (.int z0)) (hz0 : ¬ z0 = 0) (a b : Addr) (h0 : Heap) (n0 : Nat) (E0 : Exa Z h0 a "java/lang/String") (F0 : Fld Z h0 a "java/lang/String" "value" "[B" .null) (F1 : Fld Z h0 a "java/lang/String" "coder" "B" (.int (0 : Int32))) :
    Ct l Z consts_1 [] (⟨"java/lang/String", "<init>", "([CIILjava/lang/Void;)V"⟩ : MethodName) jdk_42_method_149_code 6 none ({ frames := 1, cells := 4, slots := 8, locals := 12 } : Room) #[(.ref a), (.ref b), (.int (0 : Int32)), (.int (0 : Int32)), .null] h0 n0 [a] (fun v h => v = none ∧ ∃ t : Addr, OStr Z h a t []) := by
  have w : ∀ {d : Jvm.Cond} (i : Nat), tables_1[i]? = some d → d.before a0 Z = true := fun i q => hw _ (List.mem_of_getElem? q)
  refine Ct.enter (plainFor_of_name pn_1) hEL ?_
  intro p e sS m below meth c T0 hby hml0 hret hlk hnm hs0 X0
  have hml : c.maxLocals = 6 := hml0
  have D : ∀ {pc : Nat} {r : Except DecodeError (Instr × Nat)}, decode jdk_42_method_149_code pc = r → decode c.code pc = r := fun q => hb hby q
  rw [show entryFrame m #[(.ref a), (.ref b), (.int (0 : Int32)), (.int (0 : Int32)), .null] 6 = mkF m 0 #[.val (.ref a), .val (.ref b), .val (.int (0 : Int32)), .val (.int (0 : Int32)), .val .null, .unset] [] from by first | (simp [entryFrame, mkF, argsToLocals, Value.category]; done) | rfl]
  refine X0.aloadN (x := (.ref a)) (D d3_0) rfl rfl ?_
  refine X0.inito (w 19 rfl) (w 20 rfl) (w 21 rfl) (D d3_1) (by rw [hml]; rfl) (by decide) 0 (leb rfl) (by decide) ?_
  intro T32 X33
  refine X33.iloadN (x := (0 : Int32)) (D d3_4) rfl ?_
  refine X33.if_ne 27 (D d3_5) ⟨by decide, by decide⟩ (fun hc34 => absurd hc34 (by decide)) (fun hc34 => ?_)
  refine X33.aloadN (x := (.ref a)) (D d3_8) rfl rfl ?_
  refine X33.ldcS (w 22 rfl) (fun d q => hw d (hwS d q)) (by decide) (vs := []) (z := (0 : Int32)) ⟨by decide, by decide⟩ (by decide) rfl (D d3_9) 0 (by decide) (by decide) (by decide) (by decide) ?_
  intro T35 h36 a37 b38 kb39 X40 E41 F42 F43 F44 F45 ne46
  have F47 := E0.ext E41
  have F48 := F0.ext E41
  have F49 := F1.ext E41
  show Goes p.tables e below _ (T35.setTop (mkF m 11 #[.val (.ref a), .val (.ref b), .val (.int (0 : Int32)), .val (.int (0 : Int32)), .val .null, .unset] [(.ref a37), (.ref a)]))
  refine X40.getf (w 28 rfl) Via.refl F44 (D d3_11) ?_
  intro T50 X51
  refine X51.putf (w 28 rfl) Via.refl F48 F47 (Or.inr ⟨(w 24 rfl), rfl, hnm⟩) (w 9 rfl) (ty := (.array .byte)) (by decide) rfl rfl (D d3_14) (by simp) ?_
  intro T52 h53 X54 W55
  have F56 := F48.same W55
  have F57 := F47.wr W55
  have F58 := F49.other W55 (Or.inr (slot_ne (t := .byte) (t' := (.array .byte)) (Or.inr (w 25 rfl)) (Or.inr (w 24 rfl)) (by decide) (by decide) (by decide)))
  have F59 := F42.wr W55
  have F60 := F43.other W55 (Or.inl (ne46 a (by simp)).1.symm)
  have F61 := F44.other W55 (Or.inl (ne46 a (by simp)).1.symm)
  have F62 := F45.other W55 (ne46 a (by simp)).2.symm
  refine X54.aloadN (x := (.ref a)) (D d3_17) rfl rfl ?_
  refine X54.ldcS (w 22 rfl) (fun d q => hw d (hwS d q)) (by decide) (vs := []) (z := (0 : Int32)) ⟨by decide, by decide⟩ (by decide) rfl (D d3_18) 0 (by decide) (by decide) (by decide) (by decide) ?_
  intro T63 h64 a65 b66 kb67 X68 E69 F70 F71 F72 F73 ne74
  have F75 := F57.ext E69
  have F76 := F58.ext E69
  have F77 := F59.ext E69
  have F78 := F60.ext E69
  have F79 := F61.ext E69
  have F80 := F62.ext E69
  have F81 := F56.ext E69
  show Goes p.tables e below _ (T63.setTop (mkF m 20 #[.val (.ref a), .val (.ref b), .val (.int (0 : Int32)), .val (.int (0 : Int32)), .val .null, .unset] [(.ref a65), (.ref a)]))
  refine X68.getf (w 29 rfl) Via.refl F71 (D d3_20) ?_
  intro T82 X83
  refine X83.putf (w 29 rfl) Via.refl F76 F75 (Or.inr ⟨(w 25 rfl), rfl, hnm⟩) (w 9 rfl) (ty := .byte) (by decide) rfl rfl (D d3_23) (by simp) ?_
  intro T84 h85 X86 W87
  have F88 := F76.same W87
  have F89 := F75.wr W87
  have F90 := F77.wr W87
  have F91 := F78.other W87 (Or.inl (ne46 a (by simp)).1.symm)
  have F92 := F79.other W87 (Or.inl (ne46 a (by simp)).1.symm)
  have F93 := F80.other W87 (ne46 a (by simp)).2.symm
  have F94 := F81.other W87 (Or.inr (slot_ne (t := (.array .byte)) (t' := .byte) (Or.inr (w 24 rfl)) (Or.inr (w 25 rfl)) (by decide) (by decide) (by decide)))
  have F95 := F70.wr W87
  have F96 := F71.other W87 (Or.inl (ne74 a (by simp)).1.symm)
  have F97 := F72.other W87 (Or.inl (ne74 a (by simp)).1.symm)
  have F98 := F73.other W87 (ne74 a (by simp)).2.symm
  exact X86.retn hret hlk (D d3_26) (by decide) (by decide) (⟨rfl, b38, OStr.mk (cs := []) F89 F94 F88 F93 hp0 (by decide)⟩)
theorem d2_0 : decode jdk_42_method_3_code 0 = .ok (.aload_n 0, 1) := by decide +kernel
theorem d2_1 : decode jdk_42_method_3_code 1 = .ok (.aload_n 1, 1) := by decide +kernel
theorem d2_2 : decode jdk_42_method_3_code 2 = .ok (.iconst 0, 1) := by decide +kernel
theorem d2_3 : decode jdk_42_method_3_code 3 = .ok (.aload_n 1, 1) := by decide +kernel
theorem d2_4 : decode jdk_42_method_3_code 4 = .ok (.arraylength, 1) := by decide +kernel
theorem d2_5 : decode jdk_42_method_3_code 5 = .ok (.aconst_null, 1) := by decide +kernel
theorem d2_6 : decode jdk_42_method_3_code 6 = .ok (.invokespecial 27, 3) := by decide +kernel
theorem d2_9 : decode jdk_42_method_3_code 9 = .ok (.return_, 1) := by decide +kernel
theorem pd_1 : parseMethodDescriptor "([CIILjava/lang/Void;)V" = some ⟨[(.array .char), .int, .int, (.object "java/lang/Void")], none⟩ := by decide +kernel
set_option maxRecDepth 65536 in
set_option maxHeartbeats 40000000 in
theorem ctE1 (l : Launch) (Z : State) (a0 : Array Value) (hw : ∀ d ∈ tables_1, d.before a0 Z = true) (hEL : EW Z a0 consts_1) (z0 : Int32) (S0 : Sta Z Z.heap "java/lang/String" "COMPACT_STRINGS" "Z" (.int z0)) (hz0 : ¬ z0 = 0) (a b : Addr) (kb : ClassId) (dv : Value) (h0 : Heap) (n0 : Nat) (E0 : Exa Z h0 a "java/lang/String") (F0 : Fld Z h0 a "java/lang/String" "value" "[B" .null) (F1 : Fld Z h0 a "java/lang/String" "coder" "B" (.int (0 : Int32))) (A0 : Arv Z h0 b kb .char (0 : Int32) [] dv) :
    Ct l Z consts_1 [] (⟨"java/lang/String", "<init>", "([C)V"⟩ : MethodName) jdk_42_method_3_code 2 none ({ frames := 2, cells := 4, slots := 8, locals := 29 } : Room) #[(.ref a), (.ref b)] h0 n0 [a] (fun v h => v = none ∧ ∃ t : Addr, OStr Z h a t []) := by
  have w : ∀ {d : Jvm.Cond} (i : Nat), tables_1[i]? = some d → d.before a0 Z = true := fun i q => hw _ (List.mem_of_getElem? q)
  refine Ct.enter (plainFor_of_name pn_1) hEL ?_
  intro p e sS m below meth c T0 hby hml0 hret hlk hnm hs0 X0
  have hml : c.maxLocals = 2 := hml0
  have D : ∀ {pc : Nat} {r : Except DecodeError (Instr × Nat)}, decode jdk_42_method_3_code pc = r → decode c.code pc = r := fun q => hb hby q
  rw [show entryFrame m #[(.ref a), (.ref b)] 2 = mkF m 0 #[.val (.ref a), .val (.ref b)] [] from by first | (simp [entryFrame, mkF, argsToLocals, Value.category]; done) | rfl]
  refine X0.aloadN (x := (.ref a)) (D d2_0) rfl rfl ?_
  refine X0.aloadN (x := (.ref b)) (D d2_1) rfl rfl ?_
  refine X0.iconst (x := (0 : Int32)) (D d2_2) rfl ?_
  refine X0.aloadN (x := (.ref b)) (D d2_3) rfl rfl ?_
  refine X0.alen A0 (D d2_4) ?_
  refine X0.anull (D d2_5) ?_
  refine X0.callc (a := a) [(.ref b), (.int (0 : Int32)), (.int (0 : Int32)), .null] [] (ctE4 l Z a0 hw hEL z0 S0 hz0 a b _ _ E0 F0 F1) rfl (w 15 rfl) (w 16 rfl) (w 10 rfl) (w 18 rfl) (by decide) (by simp) (by decide) 0 (by decide) (by decide) (by decide) (lenOf pd_1 rfl) rfl (leb rfl) (by rw [hml]; rfl) (D d2_6) ?_
  rintro T99 h100 _ X102 K103 ⟨rfl, t, O⟩
  have F104 := E0.keep K103
  have F105 := A0.keep K103 (ninS (Exa.neArv E0 A0 (w 9 rfl)).symm nin0)
  show Goes p.tables e below _ (T99.setTop (mkF m 9 #[.val (.ref a), .val (.ref b)] []))
  exact X102.retn hret hlk (D d2_9) (by decide) (by decide) (⟨rfl, t, O⟩)
theorem d8_0 : decode jdk_52_method_21_code 0 = .ok (.iconst 0, 1) := by decide +kernel
theorem d8_1 : decode jdk_52_method_21_code 1 = .ok (.istore 5, 2) := by decide +kernel
theorem d8_3 : decode jdk_52_method_21_code 3 = .ok (.iload 5, 2) := by decide +kernel
theorem d8_5 : decode jdk_52_method_21_code 5 = .ok (.iload 4, 2) := by decide +kernel
theorem d8_7 : decode jdk_52_method_21_code 7 = .ok (.if_icmp .ge 37, 3) := by decide +kernel
theorem d8_10 : decode jdk_52_method_21_code 10 = .ok (.aload_n 0, 1) := by decide +kernel
theorem d8_11 : decode jdk_52_method_21_code 11 = .ok (.iload_n 1, 1) := by decide +kernel
theorem d8_12 : decode jdk_52_method_21_code 12 = .ok (.caload, 1) := by decide +kernel
theorem d8_13 : decode jdk_52_method_21_code 13 = .ok (.istore 6, 2) := by decide +kernel
theorem d8_15 : decode jdk_52_method_21_code 15 = .ok (.iload 6, 2) := by decide +kernel
theorem d8_17 : decode jdk_52_method_21_code 17 = .ok (.sipush 255, 3) := by decide +kernel
theorem d8_20 : decode jdk_52_method_21_code 20 = .ok (.if_icmp .le 6, 3) := by decide +kernel
theorem d8_23 : decode jdk_52_method_21_code 23 = .ok (.iload 5, 2) := by decide +kernel
theorem d8_25 : decode jdk_52_method_21_code 25 = .ok (.ireturn, 1) := by decide +kernel
theorem d8_26 : decode jdk_52_method_21_code 26 = .ok (.aload_n 2, 1) := by decide +kernel
theorem d8_27 : decode jdk_52_method_21_code 27 = .ok (.iload_n 3, 1) := by decide +kernel
theorem d8_28 : decode jdk_52_method_21_code 28 = .ok (.iload 6, 2) := by decide +kernel
theorem d8_30 : decode jdk_52_method_21_code 30 = .ok (.i2b, 1) := by decide +kernel
theorem d8_31 : decode jdk_52_method_21_code 31 = .ok (.bastore, 1) := by decide +kernel
theorem d8_32 : decode jdk_52_method_21_code 32 = .ok (.iinc 1 1, 3) := by decide +kernel
theorem d8_35 : decode jdk_52_method_21_code 35 = .ok (.iinc 3 1, 3) := by decide +kernel
theorem d8_38 : decode jdk_52_method_21_code 38 = .ok (.iinc 5 1, 3) := by decide +kernel
theorem d8_41 : decode jdk_52_method_21_code 41 = .ok (.goto (-38), 3) := by decide +kernel
theorem d8_44 : decode jdk_52_method_21_code 44 = .ok (.iload 4, 2) := by decide +kernel
theorem d8_46 : decode jdk_52_method_21_code 46 = .ok (.ireturn, 1) := by decide +kernel
theorem pn_2 : plainName "java/lang/StringUTF16" = true := by first | (simp [plainName, overriddenIn]; done) | decide +kernel
set_option maxRecDepth 65536 in
set_option maxHeartbeats 40000000 in
theorem ctC5_1_0 (l : Launch) (Z : State) (a0 : Array Value) (hw : ∀ d ∈ tables_1, d.before a0 Z = true) (hEL : EW Z a0 consts_1) (z0 : Int32) (S0 : Sta Z Z.heap "java/lang/String" "COMPACT_STRINGS" "Z" (.int z0)) (hz0 : ¬ z0 = 0) (b d : Addr) (kb kd : ClassId) (dv : Value) (c0 : Int32) (h0 : Heap) (n0 : Nat) (A0 : Arv Z h0 b kb .char (1 : Int32) [(.int c0)] dv) (A1 : Arv Z h0 d kd .byte (1 : Int32) [(.int (0 : Int32))] (.int (0 : Int32))) (hk : (255 : Int32) < c0) :
    Ct l Z consts_1 [] (⟨"java/lang/StringUTF16", "compress", "([CI[BII)I"⟩ : MethodName) jdk_52_method_21_code 7 (some .int) ({ frames := 0, cells := 0, slots := 0, locals := 0 } : Room) #[(.ref b), (.int (0 : Int32)), (.ref d), (.int (0 : Int32)), (.int (1 : Int32))] h0 n0 [d] (fun v _ => v = some (.int (0 : Int32))) := by
  have w : ∀ {d : Jvm.Cond} (i : Nat), tables_1[i]? = some d → d.before a0 Z = true := fun i q => hw _ (List.mem_of_getElem? q)
  refine Ct.enter (plainFor_of_name pn_2) hEL ?_
  intro p e sS m below meth c T0 hby hml0 hret hlk hnm hs0 X0
  have hml : c.maxLocals = 7 := hml0
  have D : ∀ {pc : Nat} {r : Except DecodeError (Instr × Nat)}, decode jdk_52_method_21_code pc = r → decode c.code pc = r := fun q => hb hby q
  rw [show entryFrame m #[(.ref b), (.int (0 : Int32)), (.ref d), (.int (0 : Int32)), (.int (1 : Int32))] 7 = mkF m 0 #[.val (.ref b), .val (.int (0 : Int32)), .val (.ref d), .val (.int (0 : Int32)), .val (.int (1 : Int32)), .unset, .unset] [] from by first | (simp [entryFrame, mkF, argsToLocals, Value.category]; done) | rfl]
  refine X0.iconst (x := (0 : Int32)) (D d8_0) rfl ?_
  refine X0.istore #[.val (.ref b), .val (.int (0 : Int32)), .val (.ref d), .val (.int (0 : Int32)), .val (.int (1 : Int32)), .val (.int (0 : Int32)), .unset] (D d8_1) rfl ?_
  refine X0.iload (x := (0 : Int32)) (D d8_3) rfl ?_
  refine X0.iload (x := (1 : Int32)) (D d8_5) rfl ?_
  refine X0.icmp_ge 44 (D d8_7) ⟨by decide, by decide⟩ (fun hc106 => absurd hc106 (by decide)) (fun hc106 => ?_)
  refine X0.aloadN (x := (.ref b)) (D d8_10) rfl rfl ?_
  refine X0.iloadN (x := (0 : Int32)) (D d8_11) rfl ?_
  show Goes p.tables e below _ (T0.setTop (mkF m 12 #[.val (.ref b), .val (.int (0 : Int32)), .val (.ref d), .val (.int (0 : Int32)), .val (.int (1 : Int32)), .val (.int (0 : Int32)), .unset] [(.int (0 : Int32)), (.ref b)]))
  refine X0.caload (v := (.int c0)) A0 ⟨by decide, by decide⟩ rfl (D d8_12) ?_
  refine X0.istore #[.val (.ref b), .val (.int (0 : Int32)), .val (.ref d), .val (.int (0 : Int32)), .val (.int (1 : Int32)), .val (.int (0 : Int32)), .val (.int c0)] (D d8_13) rfl ?_
  refine X0.iload (x := c0) (D d8_15) rfl ?_
  refine X0.sipush (x := (255 : Int32)) (D d8_17) rfl ?_
  refine X0.icmp_le 26 (D d8_20) ⟨by decide, by decide⟩ (fun hc => (hc hk).elim) (fun hn107 => ?_)
  refine X0.iload (x := (0 : Int32)) (D d8_23) rfl ?_
  exact X0.retI hret hlk (D d8_25) (by decide) (by decide) (rfl)
theorem d20_0 : decode jdk_52_method_3_code 0 = .ok (.iload_n 0, 1) := by decide +kernel
theorem d20_1 : decode jdk_52_method_3_code 1 = .ok (.ifCond .ge 11, 3) := by decide +kernel
theorem d20_4 : decode jdk_52_method_3_code 4 = .ok (.new 17, 3) := by decide +kernel
theorem d20_7 : decode jdk_52_method_3_code 7 = .ok (.dup, 1) := by decide +kernel
theorem d20_8 : decode jdk_52_method_3_code 8 = .ok (.invokespecial 19, 3) := by decide +kernel
theorem d20_11 : decode jdk_52_method_3_code 11 = .ok (.athrow, 1) := by decide +kernel
theorem d20_12 : decode jdk_52_method_3_code 12 = .ok (.iload_n 0, 1) := by decide +kernel
theorem d20_13 : decode jdk_52_method_3_code 13 = .ok (.ldc 20, 2) := by decide +kernel
theorem d20_15 : decode jdk_52_method_3_code 15 = .ok (.if_icmp .lt 40, 3) := by decide +kernel
theorem d20_18 : decode jdk_52_method_3_code 18 = .ok (.new 21, 3) := by decide +kernel
theorem d20_21 : decode jdk_52_method_3_code 21 = .ok (.dup, 1) := by decide +kernel
theorem d20_22 : decode jdk_52_method_3_code 22 = .ok (.new 23, 3) := by decide +kernel
theorem d20_25 : decode jdk_52_method_3_code 25 = .ok (.dup, 1) := by decide +kernel
theorem d20_26 : decode jdk_52_method_3_code 26 = .ok (.invokespecial 25, 3) := by decide +kernel
theorem d20_29 : decode jdk_52_method_3_code 29 = .ok (.ldc 26, 2) := by decide +kernel
theorem d20_31 : decode jdk_52_method_3_code 31 = .ok (.invokevirtual 28, 3) := by decide +kernel
theorem d20_34 : decode jdk_52_method_3_code 34 = .ok (.iload_n 0, 1) := by decide +kernel
theorem d20_35 : decode jdk_52_method_3_code 35 = .ok (.invokevirtual 32, 3) := by decide +kernel
theorem d20_38 : decode jdk_52_method_3_code 38 = .ok (.ldc 35, 2) := by decide +kernel
theorem d20_40 : decode jdk_52_method_3_code 40 = .ok (.invokevirtual 28, 3) := by decide +kernel
theorem d20_43 : decode jdk_52_method_3_code 43 = .ok (.ldc 20, 2) := by decide +kernel
theorem d20_45 : decode jdk_52_method_3_code 45 = .ok (.invokevirtual 32, 3) := by decide +kernel
theorem d20_48 : decode jdk_52_method_3_code 48 = .ok (.invokevirtual 37, 3) := by decide +kernel
theorem d20_51 : decode jdk_52_method_3_code 51 = .ok (.invokespecial 41, 3) := by decide +kernel
theorem d20_54 : decode jdk_52_method_3_code 54 = .ok (.athrow, 1) := by decide +kernel
theorem d20_55 : decode jdk_52_method_3_code 55 = .ok (.iload_n 0, 1) := by decide +kernel
theorem d20_56 : decode jdk_52_method_3_code 56 = .ok (.iconst 1, 1) := by decide +kernel
theorem d20_57 : decode jdk_52_method_3_code 57 = .ok (.ishl, 1) := by decide +kernel
theorem d20_58 : decode jdk_52_method_3_code 58 = .ok (.ireturn, 1) := by decide +kernel
set_option maxRecDepth 65536 in
set_option maxHeartbeats 40000000 in
theorem ctNL1 (l : Launch) (Z : State) (a0 : Array Value) (hw : ∀ d ∈ tables_1, d.before a0 Z = true) (hEL : EW Z a0 consts_1) (z0 : Int32) (S0 : Sta Z Z.heap "java/lang/String" "COMPACT_STRINGS" "Z" (.int z0)) (hz0 : ¬ z0 = 0)  (h0 : Heap) (n0 : Nat)  :
    Ct l Z consts_1 [] (⟨"java/lang/StringUTF16", "newBytesLength", "(I)I"⟩ : MethodName) jdk_52_method_3_code 1 (some .int) ({ frames := 0, cells := 0, slots := 0, locals := 0 } : Room) #[(.int (1 : Int32))] h0 n0 [] (fun v _ => v = some (.int (2 : Int32))) := by
  have w : ∀ {d : Jvm.Cond} (i : Nat), tables_1[i]? = some d → d.before a0 Z = true := fun i q => hw _ (List.mem_of_getElem? q)
  refine Ct.enter (plainFor_of_name pn_2) hEL ?_
  intro p e sS m below meth c T0 hby hml0 hret hlk hnm hs0 X0
  have hml : c.maxLocals = 1 := hml0
  have D : ∀ {pc : Nat} {r : Except DecodeError (Instr × Nat)}, decode jdk_52_method_3_code pc = r → decode c.code pc = r := fun q => hb hby q
  rw [show entryFrame m #[(.int (1 : Int32))] 1 = mkF m 0 #[.val (.int (1 : Int32))] [] from by first | (simp [entryFrame, mkF, argsToLocals, Value.category]; done) | rfl]
  refine X0.iloadN (x := (1 : Int32)) (D d20_0) rfl ?_
  refine X0.if_ge 12 (D d20_1) ⟨by decide, by decide⟩ (fun hc108 => ?_) (fun hc108 => absurd hc108 (by decide))
  refine X0.iloadN (x := (1 : Int32)) (D d20_12) rfl ?_
  refine X0.ldcI (w 94 rfl) (D d20_13) ?_
  refine X0.icmp_lt 55 (D d20_15) ⟨by decide, by decide⟩ (fun hc109 => ?_) (fun hc109 => absurd hc109 (by decide))
  refine X0.iloadN (x := (1 : Int32)) (D d20_55) rfl ?_
  refine X0.iconst (x := (1 : Int32)) (D d20_56) rfl ?_
  refine X0.ishl (D d20_57) ?_
  show Goes p.tables e below _ (T0.setTop (mkF m 58 #[.val (.int (1 : Int32))] [(.int (2 : Int32))]))
  exact X0.retI hret hlk (D d20_58) (by decide) (by decide) (rfl)
theorem d19_0 : decode jdk_52_method_2_code 0 = .ok (.iload_n 0, 1) := by decide +kernel
theorem d19_1 : decode jdk_52_method_2_code 1 = .ok (.invokestatic 11, 3) := by decide +kernel
theorem d19_4 : decode jdk_52_method_2_code 4 = .ok (.newarray .byte, 2) := by decide +kernel
theorem d19_6 : decode jdk_52_method_2_code 6 = .ok (.areturn, 1) := by decide +kernel
theorem pd_2 : parseMethodDescriptor "(I)I" = some ⟨[.int], (some .int)⟩ := by decide +kernel
set_option maxRecDepth 65536 in
set_option maxHeartbeats 40000000 in
theorem ctNF1 (l : Launch) (Z : State) (a0 : Array Value) (hw : ∀ d ∈ tables_1, d.before a0 Z = true) (hEL : EW Z a0 consts_1) (z0 : Int32) (S0 : Sta Z Z.heap "java/lang/String" "COMPACT_STRINGS" "Z" (.int z0)) (hz0 : ¬ z0 = 0)  (h0 : Heap) (n0 : Nat)  :
    CtF l Z consts_1 [] (⟨"java/lang/StringUTF16", "newBytesFor", "(I)[B"⟩ : MethodName) jdk_52_method_2_code 1 (some (.array .byte)) ({ frames := 1, cells := 1, slots := 2, locals := 12 } : Room) #[(.int (1 : Int32))] h0 n0 [] (fun v h F => ∃ (r : Addr) (kr : ClassId), v = some (.ref r) ∧ F = [r] ∧ Arv Z h r kr .byte (2 : Int32) [(.int (0 : Int32)), (.int (0 : Int32))] (.int (0 : Int32))) := by
  have w : ∀ {d : Jvm.Cond} (i : Nat), tables_1[i]? = some d → d.before a0 Z = true := fun i q => hw _ (List.mem_of_getElem? q)
  refine CtF.enter (plainFor_of_name pn_2) hEL ?_
  intro p e sS m below meth c T0 hby hml0 hret hlk hnm hs0 X0
  have hml : c.maxLocals = 1 := hml0
  have D : ∀ {pc : Nat} {r : Except DecodeError (Instr × Nat)}, decode jdk_52_method_2_code pc = r → decode c.code pc = r := fun q => hb hby q
  rw [show entryFrame m #[(.int (1 : Int32))] 1 = mkF m 0 #[.val (.int (1 : Int32))] [] from by first | (simp [entryFrame, mkF, argsToLocals, Value.category]; done) | rfl]
  refine X0.iloadN (x := (1 : Int32)) (D d19_0) rfl ?_
  refine X0.callsF [(.int (1 : Int32))] [] (ctNL1 l Z a0 hw hEL z0 S0 hz0 _ _).toF (w 91 rfl) (w 92 rfl) (w 42 rfl) (w 93 rfl) (by decide) (fun _ q => nomatch q) (by decide) 0 (by decide) (by decide) (by decide) (lenOf pd_2 rfl) rfl (leb rfl) (by rw [hml]; rfl) (D d19_1) ?_
  rintro T110 h111 _ _ X113 K114 hg115 ⟨rfl, rfl⟩
  show Goes p.tables e below _ (T110.setTop (mkF m 4 #[.val (.int (1 : Int32))] [(.int (2 : Int32))]))
  refine X113.newarr (w 23 rfl) (n := (2 : Int32)) (D d19_4) (by decide) 2 (by decide) (by decide) (by decide) (by decide) ?_
  intro T116 h117 b118 kb119 g120 X121 E122 A123
  have ge124 : sS.heap.size ≤ b118 := by rw [g120]; exact X113.kept.1
  have F125 : Arv Z h117 b118 kb119 .byte (2 : Int32) [(.int (0 : Int32)), (.int (0 : Int32))] (.int (0 : Int32)) := A123.pad (pad_rep [] (.int (0 : Int32)) 2)
  exact X121.retAF [b118] (fun x q => by simp only [List.mem_cons, List.not_mem_nil, or_false] at q; rcases q with rfl <;> exact ⟨by simp, by assumption⟩) hret rfl rfl hlk (D d19_6) (by decide) (by decide) (⟨_, _, rfl, rfl, F125⟩)
theorem d21_0 : decode jdk_52_method_4_code 0 = .ok (.getstatic 44, 3) := by decide +kernel
theorem d21_3 : decode jdk_52_method_4_code 3 = .ok (.ifCond .ne 25, 3) := by decide +kernel
theorem d21_6 : decode jdk_52_method_4_code 6 = .ok (.iload_n 1, 1) := by decide +kernel
theorem d21_7 : decode jdk_52_method_4_code 7 = .ok (.ifCond .lt 11, 3) := by decide +kernel
theorem d21_10 : decode jdk_52_method_4_code 10 = .ok (.iload_n 1, 1) := by decide +kernel
theorem d21_11 : decode jdk_52_method_4_code 11 = .ok (.aload_n 0, 1) := by decide +kernel
theorem d21_12 : decode jdk_52_method_4_code 12 = .ok (.invokestatic 48, 3) := by decide +kernel
theorem d21_15 : decode jdk_52_method_4_code 15 = .ok (.if_icmp .lt 13, 3) := by decide +kernel
theorem d21_18 : decode jdk_52_method_4_code 18 = .ok (.new 52, 3) := by decide +kernel
theorem d21_21 : decode jdk_52_method_4_code 21 = .ok (.dup, 1) := by decide +kernel
theorem d21_22 : decode jdk_52_method_4_code 22 = .ok (.ldc 54, 2) := by decide +kernel
theorem d21_24 : decode jdk_52_method_4_code 24 = .ok (.invokespecial 56, 3) := by decide +kernel
theorem d21_27 : decode jdk_52_method_4_code 27 = .ok (.athrow, 1) := by decide +kernel
theorem d21_28 : decode jdk_52_method_4_code 28 = .ok (.iload_n 1, 1) := by decide +kernel
theorem d21_29 : decode jdk_52_method_4_code 29 = .ok (.iconst 1, 1) := by decide +kernel
theorem d21_30 : decode jdk_52_method_4_code 30 = .ok (.ishl, 1) := by decide +kernel
theorem d21_31 : decode jdk_52_method_4_code 31 = .ok (.istore_n 1, 1) := by decide +kernel
theorem d21_32 : decode jdk_52_method_4_code 32 = .ok (.aload_n 0, 1) := by decide +kernel
theorem d21_33 : decode jdk_52_method_4_code 33 = .ok (.iload_n 1, 1) := by decide +kernel
theorem d21_34 : decode jdk_52_method_4_code 34 = .ok (.iinc 1 1, 3) := by decide +kernel
theorem d21_37 : decode jdk_52_method_4_code 37 = .ok (.iload_n 2, 1) := by decide +kernel
theorem d21_38 : decode jdk_52_method_4_code 38 = .ok (.getstatic 59, 3) := by decide +kernel
theorem d21_41 : decode jdk_52_method_4_code 41 = .ok (.ishr, 1) := by decide +kernel
theorem d21_42 : decode jdk_52_method_4_code 42 = .ok (.i2b, 1) := by decide +kernel
theorem d21_43 : decode jdk_52_method_4_code 43 = .ok (.bastore, 1) := by decide +kernel
theorem d21_44 : decode jdk_52_method_4_code 44 = .ok (.aload_n 0, 1) := by decide +kernel
theorem d21_45 : decode jdk_52_method_4_code 45 = .ok (.iload_n 1, 1) := by decide +kernel
theorem d21_46 : decode jdk_52_method_4_code 46 = .ok (.iload_n 2, 1) := by decide +kernel
theorem d21_47 : decode jdk_52_method_4_code 47 = .ok (.getstatic 63, 3) := by decide +kernel
theorem d21_50 : decode jdk_52_method_4_code 50 = .ok (.ishr, 1) := by decide +kernel
theorem d21_51 : decode jdk_52_method_4_code 51 = .ok (.i2b, 1) := by decide +kernel
theorem d21_52 : decode jdk_52_method_4_code 52 = .ok (.bastore, 1) := by decide +kernel
theorem d21_53 : decode jdk_52_method_4_code 53 = .ok (.return_, 1) := by decide +kernel
set_option maxRecDepth 65536 in
set_option maxHeartbeats 40000000 in
theorem ctPC1_0 (l : Launch) (Z : State) (a0 : Array Value) (hw : ∀ d ∈ tables_1, d.before a0 Z = true) (hEL : EW Z a0 consts_1) (z0 : Int32) (S0 : Sta Z Z.heap "java/lang/String" "COMPACT_STRINGS" "Z" (.int z0)) (hz0 : ¬ z0 = 0) (SA1 : Sta Z Z.heap "java/lang/StringUTF16" "$assertionsDisabled" "Z" (.int (1 : Int32))) (SH : Sta Z Z.heap "java/lang/StringUTF16" "HI_BYTE_SHIFT" "I" (.int (0 : Int32))) (SL : Sta Z Z.heap "java/lang/StringUTF16" "LO_BYTE_SHIFT" "I" (.int (8 : Int32))) (r : Addr) (kr : ClassId) (x y0 y1 : Int32) (h0 : Heap) (n0 : Nat) (A0 : Arv Z h0 r kr .byte (2 : Int32) [(.int y0), (.int y1)] (.int (0 : Int32))) :
    Ct l Z consts_1 [] (⟨"java/lang/StringUTF16", "putChar", "([BII)V"⟩ : MethodName) jdk_52_method_4_code 3 none ({ frames := 0, cells := 0, slots := 0, locals := 0 } : Room) #[(.ref r), (.int (0 : Int32)), (.int x)] h0 n0 [r] (fun v h => v = none ∧ Arv Z h r kr .byte (2 : Int32) [(.int (StrChars.lo8 x)), (.int (StrChars.hi8 x))] (.int (0 : Int32))) := by
  have w : ∀ {d : Jvm.Cond} (i : Nat), tables_1[i]? = some d → d.before a0 Z = true := fun i q => hw _ (List.mem_of_getElem? q)
  refine Ct.enter (plainFor_of_name pn_2) hEL ?_
  intro p e sS m below meth c T0 hby hml0 hret hlk hnm hs0 X0
  have hml : c.maxLocals = 3 := hml0
  have D : ∀ {pc : Nat} {r : Except DecodeError (Instr × Nat)}, decode jdk_52_method_4_code pc = r → decode c.code pc = r := fun q => hb hby q
  rw [show entryFrame m #[(.ref r), (.int (0 : Int32)), (.int x)] 3 = mkF m 0 #[.val (.ref r), .val (.int (0 : Int32)), .val (.int x)] [] from by first | (simp [entryFrame, mkF, argsToLocals, Value.category]; done) | rfl]
  refine X0.gets (w 98 rfl) Via.refl (Sta.ext X0.old.2 SA1) (D d21_0) ?_
  intro T126 X127
  refine X127.if_ne 28 (D d21_3) ⟨by decide, by decide⟩ (fun hc128 => ?_) (fun hc128 => absurd hc128 (by decide))
  refine X127.iloadN (x := (0 : Int32)) (D d21_28) rfl ?_
  refine X127.iconst (x := (1 : Int32)) (D d21_29) rfl ?_
  refine X127.ishl (D d21_30) ?_
  show Goes p.tables e below _ (T126.setTop (mkF m 31 #[.val (.ref r), .val (.int (0 : Int32)), .val (.int x)] [(.int (0 : Int32))]))
  refine X127.istoreN #[.val (.ref r), .val (.int (0 : Int32)), .val (.int x)] (D d21_31) rfl ?_
  refine X127.aloadN (x := (.ref r)) (D d21_32) rfl rfl ?_
  refine X127.iloadN (x := (0 : Int32)) (D d21_33) rfl ?_
  refine X127.iinc #[.val (.ref r), .val (.int (1 : Int32)), .val (.int x)] (D d21_34) rfl rfl ?_
  refine X127.iloadN (x := x) (D d21_37) rfl ?_
  refine X127.gets (w 99 rfl) Via.refl (Sta.ext X127.old.2 SH) (D d21_38) ?_
  intro T129 X130
  refine X130.ishr (D d21_41) ?_
  refine X130.i2b (D d21_42) ?_
  show Goes p.tables e below _ (T129.setTop (mkF m 43 #[.val (.ref r), .val (.int (1 : Int32)), .val (.int x)] [(.int (StrChars.lo8 (x >>> ((0 : Int32) &&& 31)))), (.int (0 : Int32)), (.ref r)]))
  refine X130.bastore A0 ⟨by decide, by decide⟩ 0 rfl (leb rfl) (by simp) (D d21_43) ?_
  intro T131 h132 X133 W134 A135
  have F136 : Arv Z h132 r kr .byte (2 : Int32) [(.int (StrChars.lo8 x)), (.int y1)] (.int (0 : Int32)) := by rw [nar_sh0 x] at A135; exact A135
  refine X133.aloadN (x := (.ref r)) (D d21_44) rfl rfl ?_
  refine X133.iloadN (x := (1 : Int32)) (D d21_45) rfl ?_
  refine X133.iloadN (x := x) (D d21_46) rfl ?_
  refine X133.gets (w 100 rfl) Via.refl (Sta.ext X133.old.2 SL) (D d21_47) ?_
  intro T137 X138
  refine X138.ishr (D d21_50) ?_
  refine X138.i2b (D d21_51) ?_
  show Goes p.tables e below _ (T137.setTop (mkF m 52 #[.val (.ref r), .val (.int (1 : Int32)), .val (.int x)] [(.int (StrChars.lo8 (x >>> ((8 : Int32) &&& 31)))), (.int (1 : Int32)), (.ref r)]))
  refine X138.bastore F136 ⟨by decide, by decide⟩ 1 rfl (leb rfl) (by simp) (D d21_52) ?_
  intro T139 h140 X141 W142 A143
  have F144 : Arv Z h140 r kr .byte (2 : Int32) [(.int (StrChars.lo8 x)), (.int (StrChars.hi8 x))] (.int (0 : Int32)) := by rw [nar_lo8 (x >>> ((8 : Int32) &&& 31))] at A143; exact A143
  exact X141.retn hret hlk (D d21_53) (by decide) (by decide) (⟨rfl, F144⟩)
theorem d18_0 : decode jdk_52_method_14_code 0 = .ok (.iload_n 2, 1) := by decide +kernel
theorem d18_1 : decode jdk_52_method_14_code 1 = .ok (.invokestatic 107, 3) := by decide +kernel
theorem d18_4 : decode jdk_52_method_14_code 4 = .ok (.astore_n 3, 1) := by decide +kernel
theorem d18_5 : decode jdk_52_method_14_code 5 = .ok (.iconst 0, 1) := by decide +kernel
theorem d18_6 : decode jdk_52_method_14_code 6 = .ok (.istore 4, 2) := by decide +kernel
theorem d18_8 : decode jdk_52_method_14_code 8 = .ok (.iload 4, 2) := by decide +kernel
theorem d18_10 : decode jdk_52_method_14_code 10 = .ok (.iload_n 2, 1) := by decide +kernel
theorem d18_11 : decode jdk_52_method_14_code 11 = .ok (.if_icmp .ge 21, 3) := by decide +kernel
theorem d18_14 : decode jdk_52_method_14_code 14 = .ok (.aload_n 3, 1) := by decide +kernel
theorem d18_15 : decode jdk_52_method_14_code 15 = .ok (.iload 4, 2) := by decide +kernel
theorem d18_17 : decode jdk_52_method_14_code 17 = .ok (.aload_n 0, 1) := by decide +kernel
theorem d18_18 : decode jdk_52_method_14_code 18 = .ok (.iload_n 1, 1) := by decide +kernel
theorem d18_19 : decode jdk_52_method_14_code 19 = .ok (.caload, 1) := by decide +kernel
theorem d18_20 : decode jdk_52_method_14_code 20 = .ok (.invokestatic 111, 3) := by decide +kernel
theorem d18_23 : decode jdk_52_method_14_code 23 = .ok (.iinc 1 1, 3) := by decide +kernel
theorem d18_26 : decode jdk_52_method_14_code 26 = .ok (.iinc 4 1, 3) := by decide +kernel
theorem d18_29 : decode jdk_52_method_14_code 29 = .ok (.goto (-21), 3) := by decide +kernel
theorem d18_32 : decode jdk_52_method_14_code 32 = .ok (.aload_n 3, 1) := by decide +kernel
theorem d18_33 : decode jdk_52_method_14_code 33 = .ok (.areturn, 1) := by decide +kernel
theorem pd_3 : parseMethodDescriptor "(I)[B" = some ⟨[.int], (some (.array .byte))⟩ := by decide +kernel
theorem pd_4 : parseMethodDescriptor "([BII)V" = some ⟨[(.array .byte), .int, .int], none⟩ := by decide +kernel
set_option maxRecDepth 65536 in
set_option maxHeartbeats 40000000 in
theorem ctTB1 (l : Launch) (Z : State) (a0 : Array Value) (hw : ∀ d ∈ tables_1, d.before a0 Z = true) (hEL : EW Z a0 consts_1) (z0 : Int32) (S0 : Sta Z Z.heap "java/lang/String" "COMPACT_STRINGS" "Z" (.int z0)) (hz0 : ¬ z0 = 0) (SA1 : Sta Z Z.heap "java/lang/StringUTF16" "$assertionsDisabled" "Z" (.int (1 : Int32))) (SH : Sta Z Z.heap "java/lang/StringUTF16" "HI_BYTE_SHIFT" "I" (.int (0 : Int32))) (SL : Sta Z Z.heap "java/lang/StringUTF16" "LO_BYTE_SHIFT" "I" (.int (8 : Int32))) (b : Addr) (kb : ClassId) (dv : Value) (c0 : Int32) (h0 : Heap) (n0 : Nat) (A0 : Arv Z h0 b kb .char (1 : Int32) [(.int c0)] dv) :
    Ct l Z consts_1 [] (⟨"java/lang/StringUTF16", "toBytes", "([CII)[B"⟩ : MethodName) jdk_52_method_14_code 5 (some (.array .byte)) ({ frames := 2, cells := 1, slots := 2, locals := 24 } : Room) #[(.ref b), (.int (0 : Int32)), (.int (1 : Int32))] h0 n0 [] (fun v h => ∃ (r : Addr) (kr : ClassId), v = some (.ref r) ∧ Arv Z h r kr .byte (2 : Int32) [(.int (StrChars.lo8 c0)), (.int (StrChars.hi8 c0))] (.int (0 : Int32))) := by
  have w : ∀ {d : Jvm.Cond} (i : Nat), tables_1[i]? = some d → d.before a0 Z = true := fun i q => hw _ (List.mem_of_getElem? q)
  refine Ct.enter (plainFor_of_name pn_2) hEL ?_
  intro p e sS m below meth c T0 hby hml0 hret hlk hnm hs0 X0
  have hml : c.maxLocals = 5 := hml0
  have D : ∀ {pc : Nat} {r : Except DecodeError (Instr × Nat)}, decode jdk_52_method_14_code pc = r → decode c.code pc = r := fun q => hb hby q
  rw [show entryFrame m #[(.ref b), (.int (0 : Int32)), (.int (1 : Int32))] 5 = mkF m 0 #[.val (.ref b), .val (.int (0 : Int32)), .val (.int (1 : Int32)), .unset, .unset] [] from by first | (simp [entryFrame, mkF, argsToLocals, Value.category]; done) | rfl]
  refine X0.iloadN (x := (1 : Int32)) (D d18_0) rfl ?_
  refine X0.callsF [(.int (1 : Int32))] [] (ctNF1 l Z a0 hw hEL z0 S0 hz0 _ _) (w 88 rfl) (w 89 rfl) (w 42 rfl) (w 90 rfl) (by decide) (fun _ q => nomatch q) (by decide) 0 (by decide) (by decide) (by decide) (lenOf pd_3 rfl) rfl (leb rfl) (by rw [hml]; rfl) (D d18_1) ?_
  rintro T145 h146 _ _ X148 K149 hg150 ⟨r, kr, rfl, rfl, A1⟩
  have F151 := A0.keep K149 nin0
  have fg152 := hg150 r (by simp)
  have lt153 : b < r := Nat.lt_of_lt_of_le A0.lt fg152
  show Goes p.tables e below _ (T145.setTop (mkF m 4 #[.val (.ref b), .val (.int (0 : Int32)), .val (.int (1 : Int32)), .unset, .unset] [(.ref r)]))
  refine X148.astoreN #[.val (.ref b), .val (.int (0 : Int32)), .val (.int (1 : Int32)), .val (.ref r), .unset] (D d18_4) rfl rfl ?_
  refine X148.iconst (x := (0 : Int32)) (D d18_5) rfl ?_
  refine X148.istore #[.val (.ref b), .val (.int (0 : Int32)), .val (.int (1 : Int32)), .val (.ref r), .val (.int (0 : Int32))] (D d18_6) rfl ?_
  refine X148.iload (x := (0 : Int32)) (D d18_8) rfl ?_
  refine X148.iloadN (x := (1 : Int32)) (D d18_10) rfl ?_
  refine X148.icmp_ge 32 (D d18_11) ⟨by decide, by decide⟩ (fun hc154 => absurd hc154 (by decide)) (fun hc154 => ?_)
  refine X148.aloadN (x := (.ref r)) (D d18_14) rfl rfl ?_
  refine X148.iload (x := (0 : Int32)) (D d18_15) rfl ?_
  refine X148.aloadN (x := (.ref b)) (D d18_17) rfl rfl ?_
  refine X148.iloadN (x := (0 : Int32)) (D d18_18) rfl ?_
  show Goes p.tables e below _ (T145.setTop (mkF m 19 #[.val (.ref b), .val (.int (0 : Int32)), .val (.int (1 : Int32)), .val (.ref r), .val (.int (0 : Int32))] [(.int (0 : Int32)), (.ref b), (.int (0 : Int32)), (.ref r)]))
  refine X148.caload (v := (.int c0)) F151 ⟨by decide, by decide⟩ rfl (D d18_19) ?_
  refine X148.calls [(.ref r), (.int (0 : Int32)), (.int c0)] [] (ctPC1_0 l Z a0 hw hEL z0 S0 hz0 SA1 SH SL r kr c0 (0 : Int32) (0 : Int32) _ _ A1) (w 95 rfl) (w 96 rfl) (w 42 rfl) (w 97 rfl) (by decide) (by simp) (by decide) 0 (by decide) (by decide) (by decide) (lenOf pd_4 rfl) rfl (leb rfl) (by rw [hml]; rfl) (D d18_20) ?_
  rintro T156 h157 _ X159 K160 ⟨rfl, G155⟩
  have F161 := F151.keep K160 (ninS (Nat.ne_of_lt lt153) nin0)
  show Goes p.tables e below _ (T156.setTop (mkF m 23 #[.val (.ref b), .val (.int (0 : Int32)), .val (.int (1 : Int32)), .val (.ref r), .val (.int (0 : Int32))] []))
  refine X159.iinc #[.val (.ref b), .val (.int (1 : Int32)), .val (.int (1 : Int32)), .val (.ref r), .val (.int (0 : Int32))] (D d18_23) rfl rfl ?_
  refine X159.iinc #[.val (.ref b), .val (.int (1 : Int32)), .val (.int (1 : Int32)), .val (.ref r), .val (.int (1 : Int32))] (D d18_26) rfl rfl ?_
  refine X159.goto 8 (D d18_29) ⟨by decide, by decide⟩ ?_
  refine X159.iload (x := (1 : Int32)) (D d18_8) rfl ?_
  refine X159.iloadN (x := (1 : Int32)) (D d18_10) rfl ?_
  refine X159.icmp_ge 32 (D d18_11) ⟨by decide, by decide⟩ (fun hc162 => ?_) (fun hc162 => absurd hc162 (by decide))
  refine X159.aloadN (x := (.ref r)) (D d18_32) rfl rfl ?_
  exact X159.retA hret rfl rfl hlk (D d18_33) (by decide) (by decide) (⟨r, kr, rfl, G155⟩)
theorem d22_0 : decode jdk_52_method_5_code 0 = .ok (.getstatic 44, 3) := by decide +kernel
theorem d22_3 : decode jdk_52_method_5_code 3 = .ok (.ifCond .ne 25, 3) := by decide +kernel
theorem d22_6 : decode jdk_52_method_5_code 6 = .ok (.iload_n 1, 1) := by decide +kernel
theorem d22_7 : decode jdk_52_method_5_code 7 = .ok (.ifCond .lt 11, 3) := by decide +kernel
theorem d22_10 : decode jdk_52_method_5_code 10 = .ok (.iload_n 1, 1) := by decide +kernel
theorem d22_11 : decode jdk_52_method_5_code 11 = .ok (.aload_n 0, 1) := by decide +kernel
theorem d22_12 : decode jdk_52_method_5_code 12 = .ok (.invokestatic 48, 3) := by decide +kernel
theorem d22_15 : decode jdk_52_method_5_code 15 = .ok (.if_icmp .lt 13, 3) := by decide +kernel
theorem d22_18 : decode jdk_52_method_5_code 18 = .ok (.new 52, 3) := by decide +kernel
theorem d22_21 : decode jdk_52_method_5_code 21 = .ok (.dup, 1) := by decide +kernel
theorem d22_22 : decode jdk_52_method_5_code 22 = .ok (.ldc 54, 2) := by decide +kernel
theorem d22_24 : decode jdk_52_method_5_code 24 = .ok (.invokespecial 56, 3) := by decide +kernel
theorem d22_27 : decode jdk_52_method_5_code 27 = .ok (.athrow, 1) := by decide +kernel
theorem d22_28 : decode jdk_52_method_5_code 28 = .ok (.iload_n 1, 1) := by decide +kernel
theorem d22_29 : decode jdk_52_method_5_code 29 = .ok (.iconst 1, 1) := by decide +kernel
theorem d22_30 : decode jdk_52_method_5_code 30 = .ok (.ishl, 1) := by decide +kernel
theorem d22_31 : decode jdk_52_method_5_code 31 = .ok (.istore_n 1, 1) := by decide +kernel
theorem d22_32 : decode jdk_52_method_5_code 32 = .ok (.aload_n 0, 1) := by decide +kernel
theorem d22_33 : decode jdk_52_method_5_code 33 = .ok (.iload_n 1, 1) := by decide +kernel
theorem d22_34 : decode jdk_52_method_5_code 34 = .ok (.iinc 1 1, 3) := by decide +kernel
theorem d22_37 : decode jdk_52_method_5_code 37 = .ok (.baload, 1) := by decide +kernel
theorem d22_38 : decode jdk_52_method_5_code 38 = .ok (.sipush 255, 3) := by decide +kernel
theorem d22_41 : decode jdk_52_method_5_code 41 = .ok (.iand, 1) := by decide +kernel
theorem d22_42 : decode jdk_52_method_5_code 42 = .ok (.getstatic 59, 3) := by decide +kernel
theorem d22_45 : decode jdk_52_method_5_code 45 = .ok (.ishl, 1) := by decide +kernel
theorem d22_46 : decode jdk_52_method_5_code 46 = .ok (.aload_n 0, 1) := by decide +kernel
theorem d22_47 : decode jdk_52_method_5_code 47 = .ok (.iload_n 1, 1) := by decide +kernel
theorem d22_48 : decode jdk_52_method_5_code 48 = .ok (.baload, 1) := by decide +kernel
theorem d22_49 : decode jdk_52_method_5_code 49 = .ok (.sipush 255, 3) := by decide +kernel
theorem d22_52 : decode jdk_52_method_5_code 52 = .ok (.iand, 1) := by decide +kernel
theorem d22_53 : decode jdk_52_method_5_code 53 = .ok (.getstatic 63, 3) := by decide +kernel
theorem d22_56 : decode jdk_52_method_5_code 56 = .ok (.ishl, 1) := by decide +kernel
theorem d22_57 : decode jdk_52_method_5_code 57 = .ok (.ior, 1) := by decide +kernel
theorem d22_58 : decode jdk_52_method_5_code 58 = .ok (.i2c, 1) := by decide +kernel
theorem d22_59 : decode jdk_52_method_5_code 59 = .ok (.ireturn, 1) := by decide +kernel
set_option maxRecDepth 65536 in
set_option maxHeartbeats 40000000 in
theorem ctGC1_0 (l : Launch) (Z : State) (a0 : Array Value) (hw : ∀ d ∈ tables_1, d.before a0 Z = true) (hEL : EW Z a0 consts_1) (z0 : Int32) (S0 : Sta Z Z.heap "java/lang/String" "COMPACT_STRINGS" "Z" (.int z0)) (hz0 : ¬ z0 = 0) (SA1 : Sta Z Z.heap "java/lang/StringUTF16" "$assertionsDisabled" "Z" (.int (1 : Int32))) (SH : Sta Z Z.heap "java/lang/StringUTF16" "HI_BYTE_SHIFT" "I" (.int (0 : Int32))) (SL : Sta Z Z.heap "java/lang/StringUTF16" "LO_BYTE_SHIFT" "I" (.int (8 : Int32))) (r : Addr) (kr : ClassId) (c0 : Int32) (h0 : Heap) (n0 : Nat) (A0 : Arv Z h0 r kr .byte (2 : Int32) [(.int (StrChars.lo8 c0)), (.int (StrChars.hi8 c0))] (.int (0 : Int32))) (r0 : Rc c0) :
    Ct l Z consts_1 [] (⟨"java/lang/StringUTF16", "getChar", "([BI)C"⟩ : MethodName) jdk_52_method_5_code 2 (some .char) ({ frames := 0, cells := 0, slots := 0, locals := 0 } : Room) #[(.ref r), (.int (0 : Int32))] h0 n0 [] (fun v _ => v = some (.int c0)) := by
  have w : ∀ {d : Jvm.Cond} (i : Nat), tables_1[i]? = some d → d.before a0 Z = true := fun i q => hw _ (List.mem_of_getElem? q)
  refine Ct.enter (plainFor_of_name pn_2) hEL ?_
  intro p e sS m below meth c T0 hby hml0 hret hlk hnm hs0 X0
  have hml : c.maxLocals = 2 := hml0
  have D : ∀ {pc : Nat} {r : Except DecodeError (Instr × Nat)}, decode jdk_52_method_5_code pc = r → decode c.code pc = r := fun q => hb hby q
  rw [show entryFrame m #[(.ref r), (.int (0 : Int32))] 2 = mkF m 0 #[.val (.ref r), .val (.int (0 : Int32))] [] from by first | (simp [entryFrame, mkF, argsToLocals, Value.category]; done) | rfl]
  refine X0.gets (w 98 rfl) Via.refl (Sta.ext X0.old.2 SA1) (D d22_0) ?_
  intro T163 X164
  refine X164.if_ne 28 (D d22_3) ⟨by decide, by decide⟩ (fun hc165 => ?_) (fun hc165 => absurd hc165 (by decide))
  refine X164.iloadN (x := (0 : Int32)) (D d22_28) rfl ?_
  refine X164.iconst (x := (1 : Int32)) (D d22_29) rfl ?_
  refine X164.ishl (D d22_30) ?_
  show Goes p.tables e below _ (T163.setTop (mkF m 31 #[.val (.ref r), .val (.int (0 : Int32))] [(.int (0 : Int32))]))
  refine X164.istoreN #[.val (.ref r), .val (.int (0 : Int32))] (D d22_31) rfl ?_
  refine X164.aloadN (x := (.ref r)) (D d22_32) rfl rfl ?_
  refine X164.iloadN (x := (0 : Int32)) (D d22_33) rfl ?_
  refine X164.iinc #[.val (.ref r), .val (.int (1 : Int32))] (D d22_34) rfl rfl ?_
  show Goes p.tables e below _ (T163.setTop (mkF m 37 #[.val (.ref r), .val (.int (1 : Int32))] [(.int (0 : Int32)), (.ref r)]))
  refine X164.baload (v := (.int (StrChars.lo8 c0))) A0 ⟨by decide, by decide⟩ rfl (D d22_37) ?_
  refine X164.sipush (x := (255 : Int32)) (D d22_38) rfl ?_
  refine X164.iand (D d22_41) ?_
  refine X164.gets (w 99 rfl) Via.refl (Sta.ext X164.old.2 SH) (D d22_42) ?_
  intro T166 X167
  refine X167.ishl (D d22_45) ?_
  refine X167.aloadN (x := (.ref r)) (D d22_46) rfl rfl ?_
  refine X167.iloadN (x := (1 : Int32)) (D d22_47) rfl ?_
  show Goes p.tables e below _ (T166.setTop (mkF m 48 #[.val (.ref r), .val (.int (1 : Int32))] [(.int (1 : Int32)), (.ref r), (.int (((StrChars.lo8 c0) &&& (255 : Int32)) <<< ((0 : Int32) &&& 31)))]))
  refine X167.baload (v := (.int (StrChars.hi8 c0))) A0 ⟨by decide, by decide⟩ rfl (D d22_48) ?_
  refine X167.sipush (x := (255 : Int32)) (D d22_49) rfl ?_
  refine X167.iand (D d22_52) ?_
  refine X167.gets (w 100 rfl) Via.refl (Sta.ext X167.old.2 SL) (D d22_53) ?_
  intro T168 X169
  refine X169.ishl (D d22_56) ?_
  refine X169.ior (D d22_57) ?_
  refine X169.i2c (D d22_58) ?_
  exact X169.reti hret (by simp) hlk (D d22_59) (by decide) (by decide) (ret_pair r0)
theorem d7_0 : decode jdk_52_method_16_code 0 = .ok (.iload_n 2, 1) := by decide +kernel
theorem d7_1 : decode jdk_52_method_16_code 1 = .ok (.newarray .byte, 2) := by decide +kernel
theorem d7_3 : decode jdk_52_method_16_code 3 = .ok (.astore_n 3, 1) := by decide +kernel
theorem d7_4 : decode jdk_52_method_16_code 4 = .ok (.aload_n 0, 1) := by decide +kernel
theorem d7_5 : decode jdk_52_method_16_code 5 = .ok (.iload_n 1, 1) := by decide +kernel
theorem d7_6 : decode jdk_52_method_16_code 6 = .ok (.aload_n 3, 1) := by decide +kernel
theorem d7_7 : decode jdk_52_method_16_code 7 = .ok (.iconst 0, 1) := by decide +kernel
theorem d7_8 : decode jdk_52_method_16_code 8 = .ok (.iload_n 2, 1) := by decide +kernel
theorem d7_9 : decode jdk_52_method_16_code 9 = .ok (.invokestatic 115, 3) := by decide +kernel
theorem d7_12 : decode jdk_52_method_16_code 12 = .ok (.istore 4, 2) := by decide +kernel
theorem d7_14 : decode jdk_52_method_16_code 14 = .ok (.iload 4, 2) := by decide +kernel
theorem d7_16 : decode jdk_52_method_16_code 16 = .ok (.iload_n 2, 1) := by decide +kernel
theorem d7_17 : decode jdk_52_method_16_code 17 = .ok (.if_icmp .eq 40, 3) := by decide +kernel
theorem d7_20 : decode jdk_52_method_16_code 20 = .ok (.aload_n 0, 1) := by decide +kernel
theorem d7_21 : decode jdk_52_method_16_code 21 = .ok (.iload_n 1, 1) := by decide +kernel
theorem d7_22 : decode jdk_52_method_16_code 22 = .ok (.iload_n 2, 1) := by decide +kernel
theorem d7_23 : decode jdk_52_method_16_code 23 = .ok (.invokestatic 119, 3) := by decide +kernel
theorem d7_26 : decode jdk_52_method_16_code 26 = .ok (.astore 5, 2) := by decide +kernel
theorem d7_28 : decode jdk_52_method_16_code 28 = .ok (.aload 5, 2) := by decide +kernel
theorem d7_30 : decode jdk_52_method_16_code 30 = .ok (.iload 4, 2) := by decide +kernel
theorem d7_32 : decode jdk_52_method_16_code 32 = .ok (.invokestatic 71, 3) := by decide +kernel
theorem d7_35 : decode jdk_52_method_16_code 35 = .ok (.sipush 255, 3) := by decide +kernel
theorem d7_38 : decode jdk_52_method_16_code 38 = .ok (.if_icmp .gt 16, 3) := by decide +kernel
theorem d7_41 : decode jdk_52_method_16_code 41 = .ok (.aload 5, 2) := by decide +kernel
theorem d7_43 : decode jdk_52_method_16_code 43 = .ok (.iconst 0, 1) := by decide +kernel
theorem d7_44 : decode jdk_52_method_16_code 44 = .ok (.aload_n 3, 1) := by decide +kernel
theorem d7_45 : decode jdk_52_method_16_code 45 = .ok (.iconst 0, 1) := by decide +kernel
theorem d7_46 : decode jdk_52_method_16_code 46 = .ok (.iload_n 2, 1) := by decide +kernel
theorem d7_47 : decode jdk_52_method_16_code 47 = .ok (.invokestatic 123, 3) := by decide +kernel
theorem d7_50 : decode jdk_52_method_16_code 50 = .ok (.iload_n 2, 1) := by decide +kernel
theorem d7_51 : decode jdk_52_method_16_code 51 = .ok (.if_icmp .eq 6, 3) := by decide +kernel
theorem d7_54 : decode jdk_52_method_16_code 54 = .ok (.aload 5, 2) := by decide +kernel
theorem d7_56 : decode jdk_52_method_16_code 56 = .ok (.areturn, 1) := by decide +kernel
theorem d7_57 : decode jdk_52_method_16_code 57 = .ok (.aload_n 3, 1) := by decide +kernel
theorem d7_58 : decode jdk_52_method_16_code 58 = .ok (.areturn, 1) := by decide +kernel
theorem pd_5 : parseMethodDescriptor "([CI[BII)I" = some ⟨[(.array .char), .int, (.array .byte), .int, .int], (some .int)⟩ := by decide +kernel
theorem pd_6 : parseMethodDescriptor "([CII)[B" = some ⟨[(.array .char), .int, .int], (some (.array .byte))⟩ := by decide +kernel
theorem pd_7 : parseMethodDescriptor "([BI)C" = some ⟨[(.array .byte), .int], (some .char)⟩ := by decide +kernel
set_option maxRecDepth 65536 in
set_option maxHeartbeats 40000000 in
theorem ctC3_1 (l : Launch) (Z : State) (a0 : Array Value) (hw : ∀ d ∈ tables_1, d.before a0 Z = true) (hEL : EW Z a0 consts_1) (z0 : Int32) (S0 : Sta Z Z.heap "java/lang/String" "COMPACT_STRINGS" "Z" (.int z0)) (hz0 : ¬ z0 = 0) (SA1 : Sta Z Z.heap "java/lang/StringUTF16" "$assertionsDisabled" "Z" (.int (1 : Int32))) (SH : Sta Z Z.heap "java/lang/StringUTF16" "HI_BYTE_SHIFT" "I" (.int (0 : Int32))) (SL : Sta Z Z.heap "java/lang/StringUTF16" "LO_BYTE_SHIFT" "I" (.int (8 : Int32))) (b : Addr) (kb : ClassId) (dv : Value) (c0 : Int32) (h0 : Heap) (n0 : Nat) (A0 : Arv Z h0 b kb .char (1 : Int32) [(.int c0)] dv) (r0 : Rc c0) (hwide : ¬ ∀ c ∈ [c0], ¬ (255 : Int32) < c) :
    Ct l Z consts_1 [] (⟨"java/lang/StringUTF16", "compress", "([CII)[B"⟩ : MethodName) jdk_52_method_16_code 6 (some (.array .byte)) ({ frames := 3, cells := 2, slots := 3, locals := 40 } : Room) #[(.ref b), (.int (0 : Int32)), (.int (1 : Int32))] h0 n0 [] (fun v h => ∃ (r : Addr) (kr : ClassId), v = some (.ref r) ∧ Arv Z h r kr .byte (2 : Int32) [(.int (StrChars.lo8 c0)), (.int (StrChars.hi8 c0))] (.int (0 : Int32))) := by
  have w : ∀ {d : Jvm.Cond} (i : Nat), tables_1[i]? = some d → d.before a0 Z = true := fun i q => hw _ (List.mem_of_getElem? q)
  refine Ct.enter (plainFor_of_name pn_2) hEL ?_
  intro p e sS m below meth c T0 hby hml0 hret hlk hnm hs0 X0
  have hml : c.maxLocals = 6 := hml0
  have D : ∀ {pc : Nat} {r : Except DecodeError (Instr × Nat)}, decode jdk_52_method_16_code pc = r → decode c.code pc = r := fun q => hb hby q
  rw [show entryFrame m #[(.ref b), (.int (0 : Int32)), (.int (1 : Int32))] 6 = mkF m 0 #[.val (.ref b), .val (.int (0 : Int32)), .val (.int (1 : Int32)), .unset, .unset, .unset] [] from by first | (simp [entryFrame, mkF, argsToLocals, Value.category]; done) | rfl]
  refine X0.iloadN (x := (1 : Int32)) (D d7_0) rfl ?_
  refine X0.newarr (w 23 rfl) (n := (1 : Int32)) (D d7_1) (by decide) 1 (by decide) (by decide) (by decide) (by decide) ?_
  intro T170 h171 b172 kb173 g174 X175 E176 A177
  have F178 := A0.ext E176
  have lt179 : b < b172 := by rw [g174]; exact A0.lt
  have F180 : Arv Z h171 b172 kb173 .byte (1 : Int32) [(.int (0 : Int32))] (.int (0 : Int32)) := A177.pad (pad_rep [] (.int (0 : Int32)) 1)
  refine X175.astoreN #[.val (.ref b), .val (.int (0 : Int32)), .val (.int (1 : Int32)), .val (.ref b172), .unset, .unset] (D d7_3) rfl rfl ?_
  refine X175.aloadN (x := (.ref b)) (D d7_4) rfl rfl ?_
  refine X175.iloadN (x := (0 : Int32)) (D d7_5) rfl ?_
  refine X175.aloadN (x := (.ref b172)) (D d7_6) rfl rfl ?_
  refine X175.iconst (x := (0 : Int32)) (D d7_7) rfl ?_
  refine X175.iloadN (x := (1 : Int32)) (D d7_8) rfl ?_
  show Goes p.tables e below _ (T170.setTop (mkF m 9 #[.val (.ref b), .val (.int (0 : Int32)), .val (.int (1 : Int32)), .val (.ref b172), .unset, .unset] [(.int (1 : Int32)), (.int (0 : Int32)), (.ref b172), (.int (0 : Int32)), (.ref b)]))
  by_cases hj0 : (255 : Int32) < c0
  · show Goes p.tables e below _ (T170.setTop (mkF m 9 #[.val (.ref b), .val (.int (0 : Int32)), .val (.int (1 : Int32)), .val (.ref b172), .unset, .unset] [(.int (1 : Int32)), (.int (0 : Int32)), (.ref b172), (.int (0 : Int32)), (.ref b)]))
    refine X175.calls [(.ref b), (.int (0 : Int32)), (.ref b172), (.int (0 : Int32)), (.int (1 : Int32))] [] (ctC5_1_0 l Z a0 hw hEL z0 S0 hz0 b b172 _ _ _ c0 _ _ F178 F180 hj0) (w 44 rfl) (w 45 rfl) (w 42 rfl) (w 46 rfl) (by decide) (by simp) (by decide) 0 (by decide) (by decide) (by decide) (lenOf pd_5 rfl) rfl (leb rfl) (by rw [hml]; rfl) (D d7_9) ?_
    rintro T181 h182 _ X184 K185 rfl
    have F186 := F178.keep K185 (ninS (Nat.ne_of_lt lt179) nin0)
    show Goes p.tables e below _ (T181.setTop (mkF m 12 #[.val (.ref b), .val (.int (0 : Int32)), .val (.int (1 : Int32)), .val (.ref b172), .unset, .unset] [(.int (0 : Int32))]))
    refine X184.istore #[.val (.ref b), .val (.int (0 : Int32)), .val (.int (1 : Int32)), .val (.ref b172), .val (.int (0 : Int32)), .unset] (D d7_12) rfl ?_
    refine X184.iload (x := (0 : Int32)) (D d7_14) rfl ?_
    refine X184.iloadN (x := (1 : Int32)) (D d7_16) rfl ?_
    refine X184.icmp_eq 57 (D d7_17) ⟨by decide, by decide⟩ (fun hc187 => absurd hc187 (by decide)) (fun hc187 => ?_)
    refine X184.aloadN (x := (.ref b)) (D d7_20) rfl rfl ?_
    refine X184.iloadN (x := (0 : Int32)) (D d7_21) rfl ?_
    refine X184.iloadN (x := (1 : Int32)) (D d7_22) rfl ?_
    refine X184.calls [(.ref b), (.int (0 : Int32)), (.int (1 : Int32))] [] (ctTB1 l Z a0 hw hEL z0 S0 hz0 SA1 SH SL b _ _ c0 _ _ F186) (w 85 rfl) (w 86 rfl) (w 42 rfl) (w 87 rfl) (by decide) (fun _ q => nomatch q) (by decide) 0 (by decide) (by decide) (by decide) (lenOf pd_6 rfl) rfl (leb rfl) (by rw [hml]; rfl) (D d7_23) ?_
    rintro T188 h189 _ X191 K192 ⟨r, kr, rfl, A9⟩
    have F193 := F186.keep K192 nin0
    show Goes p.tables e below _ (T188.setTop (mkF m 26 #[.val (.ref b), .val (.int (0 : Int32)), .val (.int (1 : Int32)), .val (.ref b172), .val (.int (0 : Int32)), .unset] [(.ref r)]))
    refine X191.astore #[.val (.ref b), .val (.int (0 : Int32)), .val (.int (1 : Int32)), .val (.ref b172), .val (.int (0 : Int32)), .val (.ref r)] (D d7_26) rfl rfl ?_
    refine X191.aload (x := (.ref r)) (D d7_28) rfl rfl ?_
    refine X191.iload (x := (0 : Int32)) (D d7_30) rfl ?_
    refine X191.calls [(.ref r), (.int (0 : Int32))] [] (ctGC1_0 l Z a0 hw hEL z0 S0 hz0 SA1 SH SL r kr c0 _ _ A9 r0) (w 101 rfl) (w 102 rfl) (w 42 rfl) (w 103 rfl) (by decide) (fun _ q => nomatch q) (by decide) 0 (by decide) (by decide) (by decide) (lenOf pd_7 rfl) rfl (leb rfl) (by rw [hml]; rfl) (D d7_32) ?_
    rintro T194 h195 _ X197 K198 rfl
    have F199 := F193.keep K198 nin0
    have F200 := A9.keep K198 nin0
    show Goes p.tables e below _ (T194.setTop (mkF m 35 #[.val (.ref b), .val (.int (0 : Int32)), .val (.int (1 : Int32)), .val (.ref b172), .val (.int (0 : Int32)), .val (.ref r)] [(.int c0)]))
    refine X197.sipush (x := (255 : Int32)) (D d7_35) rfl ?_
    refine X197.icmp_gt 54 (D d7_38) ⟨by decide, by decide⟩ (fun hn201 => ?_) (fun hc => (hc hj0).elim)
    refine X197.aload (x := (.ref r)) (D d7_54) rfl rfl ?_
    exact X197.retA hret rfl rfl hlk (D d7_56) (by decide) (by decide) (⟨r, kr, rfl, F200⟩)
  · show Goes p.tables e below _ (T170.setTop (mkF m 9 #[.val (.ref b), .val (.int (0 : Int32)), .val (.int (1 : Int32)), .val (.ref b172), .unset, .unset] [(.int (1 : Int32)), (.int (0 : Int32)), (.ref b172), (.int (0 : Int32)), (.ref b)]))
    exact (hwide (hpS hj0 hp0)).elim
theorem d9_0 : decode jdk_52_method_15_code 0 = .ok (.iload_n 1, 1) := by decide +kernel
theorem d9_1 : decode jdk_52_method_15_code 1 = .ok (.aload_n 0, 1) := by decide +kernel
theorem d9_2 : decode jdk_52_method_15_code 2 = .ok (.arraylength, 1) := by decide +kernel
theorem d9_3 : decode jdk_52_method_15_code 3 = .ok (.isub, 1) := by decide +kernel
theorem d9_4 : decode jdk_52_method_15_code 4 = .ok (.bipush 31, 2) := by decide +kernel
theorem d9_6 : decode jdk_52_method_15_code 6 = .ok (.iushr, 1) := by decide +kernel
theorem d9_7 : decode jdk_52_method_15_code 7 = .ok (.i2b, 1) := by decide +kernel
theorem d9_8 : decode jdk_52_method_15_code 8 = .ok (.ireturn, 1) := by decide +kernel
set_option maxRecDepth 65536 in
set_option maxHeartbeats 40000000 in
theorem ctCF1 (l : Launch) (Z : State) (a0 : Array Value) (hw : ∀ d ∈ tables_1, d.before a0 Z = true) (hEL : EW Z a0 consts_1) (z0 : Int32) (S0 : Sta Z Z.heap "java/lang/String" "COMPACT_STRINGS" "Z" (.int z0)) (hz0 : ¬ z0 = 0) (r : Addr) (kr : ClassId) (vs : List Value) (dv : Value) (h0 : Heap) (n0 : Nat) (A0 : Arv Z h0 r kr .byte (2 : Int32) vs dv) :
    Ct l Z consts_1 [] (⟨"java/lang/StringUTF16", "coderFromArrayLen", "([BI)B"⟩ : MethodName) jdk_52_method_15_code 2 (some .byte) ({ frames := 0, cells := 0, slots := 0, locals := 0 } : Room) #[(.ref r), (.int (1 : Int32))] h0 n0 [] (fun v _ => v = some (.int (1 : Int32))) := by
  have w : ∀ {d : Jvm.Cond} (i : Nat), tables_1[i]? = some d → d.before a0 Z = true := fun i q => hw _ (List.mem_of_getElem? q)
  refine Ct.enter (plainFor_of_name pn_2) hEL ?_
  intro p e sS m below meth c T0 hby hml0 hret hlk hnm hs0 X0
  have hml : c.maxLocals = 2 := hml0
  have D : ∀ {pc : Nat} {r : Except DecodeError (Instr × Nat)}, decode jdk_52_method_15_code pc = r → decode c.code pc = r := fun q => hb hby q
  rw [show entryFrame m #[(.ref r), (.int (1 : Int32))] 2 = mkF m 0 #[.val (.ref r), .val (.int (1 : Int32))] [] from by first | (simp [entryFrame, mkF, argsToLocals, Value.category]; done) | rfl]
  refine X0.iloadN (x := (1 : Int32)) (D d9_0) rfl ?_
  refine X0.aloadN (x := (.ref r)) (D d9_1) rfl rfl ?_
  refine X0.alen A0 (D d9_2) ?_
  refine X0.isub (D d9_3) ?_
  show Goes p.tables e below _ (T0.setTop (mkF m 4 #[.val (.ref r), .val (.int (1 : Int32))] [(.int (-1 : Int32))]))
  refine X0.bipush (x := (31 : Int32)) (D d9_4) rfl ?_
  refine X0.iushr (D d9_6) ?_
  show Goes p.tables e below _ (T0.setTop (mkF m 7 #[.val (.ref r), .val (.int (1 : Int32))] [(.int (1 : Int32))]))
  refine X0.i2b (D d9_7) ?_
  show Goes p.tables e below _ (T0.setTop (mkF m 8 #[.val (.ref r), .val (.int (1 : Int32))] [(.int (1 : Int32))]))
  exact X0.reti hret (by simp) hlk (D d9_8) (by decide) (by decide) (rfl)
theorem pd_8 : parseMethodDescriptor "([BI)B" = some ⟨[(.array .byte), .int], (some .byte)⟩ := by decide +kernel
set_option maxRecDepth 65536 in
set_option maxHeartbeats 40000000 in
theorem ctI4_1 (l : Launch) (Z : State) (a0 : Array Value) (hw : ∀ d ∈ tables_1, d.before a0 Z = true) (hEL : EW Z a0 consts_1) (z0 : Int32) (S0 : Sta Z Z.heap "java/lang/String" "COMPACT_STRINGS" "Z" (.int z0)) (hz0 : ¬ z0 = 0) (SA1 : Sta Z Z.heap "java/lang/StringUTF16" "$assertionsDisabled" "Z" (.int (1 : Int32))) (SH : Sta Z Z.heap "java/lang/StringUTF16" "HI_BYTE_SHIFT" "I" (.int (0 : Int32))) (SL : Sta Z Z.heap "java/lang/StringUTF16" "LO_BYTE_SHIFT" "I" (.int (8 : Int32))) (a b : Addr) (kb : ClassId) (dv : Value) (c0 : Int32) (h0 : Heap) (n0 : Nat) (E0 : Exa Z h0 a "java/lang/String") (F0 : Fld Z h0 a "java/lang/String" "value" "[B" .null) (F1 : Fld Z h0 a "java/lang/String" "coder" "B" (.int (0 : Int32))) (A0 : Arv Z h0 b kb .char (1 : Int32) [(.int c0)] dv) (r0 : Rc c0) (hwide : ¬ ∀ c ∈ [c0], ¬ (255 : Int32) < c) :
    Ct l Z consts_1 [] (⟨"java/lang/String", "<init>", "([CIILjava/lang/Void;)V"⟩ : MethodName) jdk_42_method_149_code 6 none ({ frames := 4, cells := 2, slots := 3, locals := 57 } : Room) #[(.ref a), (.ref b), (.int (0 : Int32)), (.int (1 : Int32)), .null] h0 n0 [a] (fun v h => v = none ∧ ∃ t : Addr, UStr Z h a t [c0]) := by
  have w : ∀ {d : Jvm.Cond} (i : Nat), tables_1[i]? = some d → d.before a0 Z = true := fun i q => hw _ (List.mem_of_getElem? q)
  refine Ct.enter (plainFor_of_name pn_1) hEL ?_
  intro p e sS m below meth c T0 hby hml0 hret hlk hnm hs0 X0
  have hml : c.maxLocals = 6 := hml0
  have D : ∀ {pc : Nat} {r : Except DecodeError (Instr × Nat)}, decode jdk_42_method_149_code pc = r → decode c.code pc = r := fun q => hb hby q
  rw [show entryFrame m #[(.ref a), (.ref b), (.int (0 : Int32)), (.int (1 : Int32)), .null] 6 = mkF m 0 #[.val (.ref a), .val (.ref b), .val (.int (0 : Int32)), .val (.int (1 : Int32)), .val .null, .unset] [] from by first | (simp [entryFrame, mkF, argsToLocals, Value.category]; done) | rfl]
  refine X0.aloadN (x := (.ref a)) (D d3_0) rfl rfl ?_
  refine X0.inito (w 19 rfl) (w 20 rfl) (w 21 rfl) (D d3_1) (by rw [hml]; rfl) (by decide) 0 (leb rfl) (by decide) ?_
  intro T202 X203
  refine X203.iloadN (x := (1 : Int32)) (D d3_4) rfl ?_
  refine X203.if_ne 27 (D d3_5) ⟨by decide, by decide⟩ (fun hc204 => ?_) (fun hc204 => absurd hc204 (by decide))
  refine X203.gets (w 39 rfl) Via.refl (Sta.ext X203.old.2 S0) (D d3_27) ?_
  intro T205 X206
  refine X206.if_eq 58 (D d3_30) ⟨by decide, by decide⟩ (fun hc => (hz0 hc).elim) (fun hn207 => ?_)
  refine X206.aloadN (x := (.ref b)) (D d3_33) rfl rfl ?_
  refine X206.iloadN (x := (0 : Int32)) (D d3_34) rfl ?_
  refine X206.iloadN (x := (1 : Int32)) (D d3_35) rfl ?_
  refine X206.calls [(.ref b), (.int (0 : Int32)), (.int (1 : Int32))] [] (ctC3_1 l Z a0 hw hEL z0 S0 hz0 SA1 SH SL b _ _ c0 _ _ A0 r0 hwide) (w 40 rfl) (w 41 rfl) (w 42 rfl) (w 43 rfl) (by decide) (fun _ q => nomatch q) (by decide) 0 (by decide) (by decide) (by decide) (lenOf pd_6 rfl) rfl (leb rfl) (by rw [hml]; rfl) (D d3_36) ?_
  rintro T208 h209 _ X211 K212 ⟨r, kr, rfl, A9⟩
  have F213 := E0.keep K212
  have F214 := F0.keep K212 nin0
  have F215 := F1.keep K212 nin0
  have F216 := A0.keep K212 nin0
  show Goes p.tables e below _ (T208.setTop (mkF m 39 #[.val (.ref a), .val (.ref b), .val (.int (0 : Int32)), .val (.int (1 : Int32)), .val .null, .unset] [(.ref r)]))
  refine X211.astore #[.val (.ref a), .val (.ref b), .val (.int (0 : Int32)), .val (.int (1 : Int32)), .val .null, .val (.ref r)] (D d3_39) rfl rfl ?_
  refine X211.aloadN (x := (.ref a)) (D d3_41) rfl rfl ?_
  refine X211.aload (x := (.ref r)) (D d3_42) rfl rfl ?_
  refine X211.iloadN (x := (1 : Int32)) (D d3_44) rfl ?_
  refine X211.calls [(.ref r), (.int (1 : Int32))] [(.ref a)] (ctCF1 l Z a0 hw hEL z0 S0 hz0 r kr _ _ _ _ A9) (w 47 rfl) (w 48 rfl) (w 42 rfl) (w 49 rfl) (by decide) (fun _ q => nomatch q) (by decide) 1 (by decide) (by decide) (by decide) (lenOf pd_8 rfl) rfl (leb rfl) (by rw [hml]; rfl) (D d3_45) ?_
  rintro T217 h218 _ X220 K221 rfl
  have F222 := F213.keep K221
  have F223 := F214.keep K221 nin0
  have F224 := F215.keep K221 nin0
  have F225 := F216.keep K221 nin0
  have F226 := A9.keep K221 nin0
  show Goes p.tables e below _ (T217.setTop (mkF m 48 #[.val (.ref a), .val (.ref b), .val (.int (0 : Int32)), .val (.int (1 : Int32)), .val .null, .val (.ref r)] [(.int (1 : Int32)), (.ref a)]))
  refine X220.putf (w 29 rfl) Via.refl F224 F222 (Or.inr ⟨(w 25 rfl), rfl, hnm⟩) (w 9 rfl) (ty := .byte) (by decide) rfl rfl (D d3_48) (by simp) ?_
  intro T227 h228 X229 W230
  have F231 := F224.same W230
  have F232 := F222.wr W230
  have F233 := F223.other W230 (Or.inr (slot_ne (t := (.array .byte)) (t' := .byte) (Or.inr (w 24 rfl)) (Or.inr (w 25 rfl)) (by decide) (by decide) (by decide)))
  have F234 := F225.other W230 (Exa.neArv F222 F225 (w 9 rfl)).symm
  have F235 := F226.other W230 (Exa.neArv F222 F226 (w 9 rfl)).symm
  refine X229.aloadN (x := (.ref a)) (D d3_51) rfl rfl ?_
  refine X229.aload (x := (.ref r)) (D d3_52) rfl rfl ?_
  refine X229.putf (w 28 rfl) Via.refl F233 F232 (Or.inr ⟨(w 24 rfl), rfl, hnm⟩) (w 9 rfl) (ty := (.array .byte)) (by decide) rfl rfl (D d3_54) (by simp) ?_
  intro T236 h237 X238 W239
  have F240 := F233.same W239
  have F241 := F232.wr W239
  have F242 := F234.other W239 (Exa.neArv F232 F234 (w 9 rfl)).symm
  have F243 := F235.other W239 (Exa.neArv F232 F235 (w 9 rfl)).symm
  have F244 := F231.other W239 (Or.inr (slot_ne (t := .byte) (t' := (.array .byte)) (Or.inr (w 25 rfl)) (Or.inr (w 24 rfl)) (by decide) (by decide) (by decide)))
  exact X238.retn hret hlk (D d3_57) (by decide) (by decide) (⟨rfl, r, F241, kr, F240, F244, F243⟩)
set_option maxRecDepth 65536 in
set_option maxHeartbeats 40000000 in
theorem ctI1_1 (l : Launch) (Z : State) (a0 : Array Value) (hw : ∀ d ∈ tables_1, d.before a0 Z = true) (hEL : EW Z a0 consts_1) (z0 : Int32) (S0 : Sta Z Z.heap "java/lang/String" "COMPACT_STRINGS" "Z" (.int z0)) (hz0 : ¬ z0 = 0) (SA1 : Sta Z Z.heap "java/lang/StringUTF16" "$assertionsDisabled" "Z" (.int (1 : Int32))) (SH : Sta Z Z.heap "java/lang/StringUTF16" "HI_BYTE_SHIFT" "I" (.int (0 : Int32))) (SL : Sta Z Z.heap "java/lang/StringUTF16" "LO_BYTE_SHIFT" "I" (.int (8 : Int32))) (a b : Addr) (kb : ClassId) (dv : Value) (c0 : Int32) (h0 : Heap) (n0 : Nat) (E0 : Exa Z h0 a "java/lang/String") (F0 : Fld Z h0 a "java/lang/String" "value" "[B" .null) (F1 : Fld Z h0 a "java/lang/String" "coder" "B" (.int (0 : Int32))) (A0 : Arv Z h0 b kb .char (1 : Int32) [(.int c0)] dv) (r0 : Rc c0) (hwide : ¬ ∀ c ∈ [c0], ¬ (255 : Int32) < c) :
    Ct l Z consts_1 [] (⟨"java/lang/String", "<init>", "([C)V"⟩ : MethodName) jdk_42_method_3_code 2 none ({ frames := 5, cells := 2, slots := 3, locals := 74 } : Room) #[(.ref a), (.ref b)] h0 n0 [a] (fun v h => v = none ∧ ∃ t : Addr, UStr Z h a t [c0]) := by
  have w : ∀ {d : Jvm.Cond} (i : Nat), tables_1[i]? = some d → d.before a0 Z = true := fun i q => hw _ (List.mem_of_getElem? q)
  refine Ct.enter (plainFor_of_name pn_1) hEL ?_
  intro p e sS m below meth c T0 hby hml0 hret hlk hnm hs0 X0
  have hml : c.maxLocals = 2 := hml0
  have D : ∀ {pc : Nat} {r : Except DecodeError (Instr × Nat)}, decode jdk_42_method_3_code pc = r → decode c.code pc = r := fun q => hb hby q
  rw [show entryFrame m #[(.ref a), (.ref b)] 2 = mkF m 0 #[.val (.ref a), .val (.ref b)] [] from by first | (simp [entryFrame, mkF, argsToLocals, Value.category]; done) | rfl]
  refine X0.aloadN (x := (.ref a)) (D d2_0) rfl rfl ?_
  refine X0.aloadN (x := (.ref b)) (D d2_1) rfl rfl ?_
  refine X0.iconst (x := (0 : Int32)) (D d2_2) rfl ?_
  refine X0.aloadN (x := (.ref b)) (D d2_3) rfl rfl ?_
  refine X0.alen A0 (D d2_4) ?_
  refine X0.anull (D d2_5) ?_
  refine X0.callc (a := a) [(.ref b), (.int (0 : Int32)), (.int (1 : Int32)), .null] [] (ctI4_1 l Z a0 hw hEL z0 S0 hz0 SA1 SH SL a b _ _ c0 _ _ E0 F0 F1 A0 r0 hwide) rfl (w 15 rfl) (w 16 rfl) (w 10 rfl) (w 18 rfl) (by decide) (by simp) (by decide) 0 (by decide) (by decide) (by decide) (lenOf pd_1 rfl) rfl (leb rfl) (by rw [hml]; rfl) (D d2_6) ?_
  rintro T245 h246 _ X248 K249 ⟨rfl, t, O⟩
  have F250 := E0.keep K249
  have F251 := A0.keep K249 (ninS (Exa.neArv E0 A0 (w 9 rfl)).symm nin0)
  show Goes p.tables e below _ (T245.setTop (mkF m 9 #[.val (.ref a), .val (.ref b)] []))
  exact X248.retn hret hlk (D d2_9) (by decide) (by decide) (⟨rfl, t, O⟩)
set_option maxRecDepth 65536 in
set_option maxHeartbeats 40000000 in
theorem ctC5_2_0 (l : Launch) (Z : State) (a0 : Array Value) (hw : ∀ d ∈ tables_1, d.before a0 Z = true) (hEL : EW Z a0 consts_1) (z0 : Int32) (S0 : Sta Z Z.heap "java/lang/String" "COMPACT_STRINGS" "Z" (.int z0)) (hz0 : ¬ z0 = 0) (b d : Addr) (kb kd : ClassId) (dv : Value) (c0 c1 : Int32) (h0 : Heap) (n0 : Nat) (A0 : Arv Z h0 b kb .char (2 : Int32) [(.int c0), (.int c1)] dv) (A1 : Arv Z h0 d kd .byte (2 : Int32) [(.int (0 : Int32)), (.int (0 : Int32))] (.int (0 : Int32))) (hk : (255 : Int32) < c0) :
    Ct l Z consts_1 [] (⟨"java/lang/StringUTF16", "compress", "([CI[BII)I"⟩ : MethodName) jdk_52_method_21_code 7 (some .int) ({ frames := 0, cells := 0, slots := 0, locals := 0 } : Room) #[(.ref b), (.int (0 : Int32)), (.ref d), (.int (0 : Int32)), (.int (2 : Int32))] h0 n0 [d] (fun v _ => v = some (.int (0 : Int32))) := by
  have w : ∀ {d : Jvm.Cond} (i : Nat), tables_1[i]? = some d → d.before a0 Z = true := fun i q => hw _ (List.mem_of_getElem? q)
  refine Ct.enter (plainFor_of_name pn_2) hEL ?_
  intro p e sS m below meth c T0 hby hml0 hret hlk hnm hs0 X0
  have hml : c.maxLocals = 7 := hml0
  have D : ∀ {pc : Nat} {r : Except DecodeError (Instr × Nat)}, decode jdk_52_method_21_code pc = r → decode c.code pc = r := fun q => hb hby q
  rw [show entryFrame m #[(.ref b), (.int (0 : Int32)), (.ref d), (.int (0 : Int32)), (.int (2 : Int32))] 7 = mkF m 0 #[.val (.ref b), .val (.int (0 : Int32)), .val (.ref d), .val (.int (0 : Int32)), .val (.int (2 : Int32)), .unset, .unset] [] from by first | (simp [entryFrame, mkF, argsToLocals, Value.category]; done) | rfl]
  refine X0.iconst (x := (0 : Int32)) (D d8_0) rfl ?_
  refine X0.istore #[.val (.ref b), .val (.int (0 : Int32)), .val (.ref d), .val (.int (0 : Int32)), .val (.int (2 : Int32)), .val (.int (0 : Int32)), .unset] (D d8_1) rfl ?_
  refine X0.iload (x := (0 : Int32)) (D d8_3) rfl ?_
  refine X0.iload (x := (2 : Int32)) (D d8_5) rfl ?_
  refine X0.icmp_ge 44 (D d8_7) ⟨by decide, by decide⟩ (fun hc252 => absurd hc252 (by decide)) (fun hc252 => ?_)
  refine X0.aloadN (x := (.ref b)) (D d8_10) rfl rfl ?_
  refine X0.iloadN (x := (0 : Int32)) (D d8_11) rfl ?_
  show Goes p.tables e below _ (T0.setTop (mkF m 12 #[.val (.ref b), .val (.int (0 : Int32)), .val (.ref d), .val (.int (0 : Int32)), .val (.int (2 : Int32)), .val (.int (0 : Int32)), .unset] [(.int (0 : Int32)), (.ref b)]))
  refine X0.caload (v := (.int c0)) A0 ⟨by decide, by decide⟩ rfl (D d8_12) ?_
  refine X0.istore #[.val (.ref b), .val (.int (0 : Int32)), .val (.ref d), .val (.int (0 : Int32)), .val (.int (2 : Int32)), .val (.int (0 : Int32)), .val (.int c0)] (D d8_13) rfl ?_
  refine X0.iload (x := c0) (D d8_15) rfl ?_
  refine X0.sipush (x := (255 : Int32)) (D d8_17) rfl ?_
  refine X0.icmp_le 26 (D d8_20) ⟨by decide, by decide⟩ (fun hc => (hc hk).elim) (fun hn253 => ?_)
  refine X0.iload (x := (0 : Int32)) (D d8_23) rfl ?_
  exact X0.retI hret hlk (D d8_25) (by decide) (by decide) (rfl)
set_option maxRecDepth 65536 in
set_option maxHeartbeats 40000000 in
theorem ctC5_2_1 (l : Launch) (Z : State) (a0 : Array Value) (hw : ∀ d ∈ tables_1, d.before a0 Z = true) (hEL : EW Z a0 consts_1) (z0 : Int32) (S0 : Sta Z Z.heap "java/lang/String" "COMPACT_STRINGS" "Z" (.int z0)) (hz0 : ¬ z0 = 0) (b d : Addr) (kb kd : ClassId) (dv : Value) (c0 c1 : Int32) (h0 : Heap) (n0 : Nat) (A0 : Arv Z h0 b kb .char (2 : Int32) [(.int c0), (.int c1)] dv) (A1 : Arv Z h0 d kd .byte (2 : Int32) [(.int (0 : Int32)), (.int (0 : Int32))] (.int (0 : Int32))) (hk : (255 : Int32) < c1) (hj0 : ¬ (255 : Int32) < c0) :
    Ct l Z consts_1 [] (⟨"java/lang/StringUTF16", "compress", "([CI[BII)I"⟩ : MethodName) jdk_52_method_21_code 7 (some .int) ({ frames := 0, cells := 0, slots := 0, locals := 0 } : Room) #[(.ref b), (.int (0 : Int32)), (.ref d), (.int (0 : Int32)), (.int (2 : Int32))] h0 n0 [d] (fun v _ => v = some (.int (1 : Int32))) := by
  have w : ∀ {d : Jvm.Cond} (i : Nat), tables_1[i]? = some d → d.before a0 Z = true := fun i q => hw _ (List.mem_of_getElem? q)
  refine Ct.enter (plainFor_of_name pn_2) hEL ?_
  intro p e sS m below meth c T0 hby hml0 hret hlk hnm hs0 X0
  have hml : c.maxLocals = 7 := hml0
  have D : ∀ {pc : Nat} {r : Except DecodeError (Instr × Nat)}, decode jdk_52_method_21_code pc = r → decode c.code pc = r := fun q => hb hby q
  rw [show entryFrame m #[(.ref b), (.int (0 : Int32)), (.ref d), (.int (0 : Int32)), (.int (2 : Int32))] 7 = mkF m 0 #[.val (.ref b), .val (.int (0 : Int32)), .val (.ref d), .val (.int (0 : Int32)), .val (.int (2 : Int32)), .unset, .unset] [] from by first | (simp [entryFrame, mkF, argsToLocals, Value.category]; done) | rfl]
  refine X0.iconst (x := (0 : Int32)) (D d8_0) rfl ?_
  refine X0.istore #[.val (.ref b), .val (.int (0 : Int32)), .val (.ref d), .val (.int (0 : Int32)), .val (.int (2 : Int32)), .val (.int (0 : Int32)), .unset] (D d8_1) rfl ?_
  refine X0.iload (x := (0 : Int32)) (D d8_3) rfl ?_
  refine X0.iload (x := (2 : Int32)) (D d8_5) rfl ?_
  refine X0.icmp_ge 44 (D d8_7) ⟨by decide, by decide⟩ (fun hc254 => absurd hc254 (by decide)) (fun hc254 => ?_)
  refine X0.aloadN (x := (.ref b)) (D d8_10) rfl rfl ?_
  refine X0.iloadN (x := (0 : Int32)) (D d8_11) rfl ?_
  show Goes p.tables e below _ (T0.setTop (mkF m 12 #[.val (.ref b), .val (.int (0 : Int32)), .val (.ref d), .val (.int (0 : Int32)), .val (.int (2 : Int32)), .val (.int (0 : Int32)), .unset] [(.int (0 : Int32)), (.ref b)]))
  refine X0.caload (v := (.int c0)) A0 ⟨by decide, by decide⟩ rfl (D d8_12) ?_
  refine X0.istore #[.val (.ref b), .val (.int (0 : Int32)), .val (.ref d), .val (.int (0 : Int32)), .val (.int (2 : Int32)), .val (.int (0 : Int32)), .val (.int c0)] (D d8_13) rfl ?_
  refine X0.iload (x := c0) (D d8_15) rfl ?_
  refine X0.sipush (x := (255 : Int32)) (D d8_17) rfl ?_
  refine X0.icmp_le 26 (D d8_20) ⟨by decide, by decide⟩ (fun hn255 => ?_) (fun hc => (hj0 hc).elim)
  refine X0.aloadN (x := (.ref d)) (D d8_26) rfl rfl ?_
  refine X0.iloadN (x := (0 : Int32)) (D d8_27) rfl ?_
  refine X0.iload (x := c0) (D d8_28) rfl ?_
  refine X0.i2b (D d8_30) ?_
  show Goes p.tables e below _ (T0.setTop (mkF m 31 #[.val (.ref b), .val (.int (0 : Int32)), .val (.ref d), .val (.int (0 : Int32)), .val (.int (2 : Int32)), .val (.int (0 : Int32)), .val (.int c0)] [(.int (StrChars.lo8 c0)), (.int (0 : Int32)), (.ref d)]))
  refine X0.bastore A1 ⟨by decide, by decide⟩ 0 rfl (leb rfl) (by simp) (D d8_31) ?_
  intro T256 h257 X258 W259 A260
  have F261 := A0.other W259 (arvTy A0 A1 (by decide))
  have F262 : Arv Z h257 d kd .byte (2 : Int32) [(.int (StrChars.lo8 c0)), (.int (0 : Int32))] (.int (0 : Int32)) := by rw [nar_lo8 c0] at A260; exact A260
  refine X258.iinc #[.val (.ref b), .val (.int (1 : Int32)), .val (.ref d), .val (.int (0 : Int32)), .val (.int (2 : Int32)), .val (.int (0 : Int32)), .val (.int c0)] (D d8_32) rfl rfl ?_
  refine X258.iinc #[.val (.ref b), .val (.int (1 : Int32)), .val (.ref d), .val (.int (1 : Int32)), .val (.int (2 : Int32)), .val (.int (0 : Int32)), .val (.int c0)] (D d8_35) rfl rfl ?_
  refine X258.iinc #[.val (.ref b), .val (.int (1 : Int32)), .val (.ref d), .val (.int (1 : Int32)), .val (.int (2 : Int32)), .val (.int (1 : Int32)), .val (.int c0)] (D d8_38) rfl rfl ?_
  refine X258.goto 3 (D d8_41) ⟨by decide, by decide⟩ ?_
  refine X258.iload (x := (1 : Int32)) (D d8_3) rfl ?_
  refine X258.iload (x := (2 : Int32)) (D d8_5) rfl ?_
  refine X258.icmp_ge 44 (D d8_7) ⟨by decide, by decide⟩ (fun hc263 => absurd hc263 (by decide)) (fun hc263 => ?_)
  refine X258.aloadN (x := (.ref b)) (D d8_10) rfl rfl ?_
  refine X258.iloadN (x := (1 : Int32)) (D d8_11) rfl ?_
  show Goes p.tables e below _ (T256.setTop (mkF m 12 #[.val (.ref b), .val (.int (1 : Int32)), .val (.ref d), .val (.int (1 : Int32)), .val (.int (2 : Int32)), .val (.int (1 : Int32)), .val (.int c0)] [(.int (1 : Int32)), (.ref b)]))
  refine X258.caload (v := (.int c1)) F261 ⟨by decide, by decide⟩ rfl (D d8_12) ?_
  refine X258.istore #[.val (.ref b), .val (.int (1 : Int32)), .val (.ref d), .val (.int (1 : Int32)), .val (.int (2 : Int32)), .val (.int (1 : Int32)), .val (.int c1)] (D d8_13) rfl ?_
  refine X258.iload (x := c1) (D d8_15) rfl ?_
  refine X258.sipush (x := (255 : Int32)) (D d8_17) rfl ?_
  refine X258.icmp_le 26 (D d8_20) ⟨by decide, by decide⟩ (fun hc => (hc hk).elim) (fun hn264 => ?_)
  refine X258.iload (x := (1 : Int32)) (D d8_23) rfl ?_
  exact X258.retI hret hlk (D d8_25) (by decide) (by decide) (rfl)
set_option maxRecDepth 65536 in
set_option maxHeartbeats 40000000 in
theorem ctNL2 (l : Launch) (Z : State) (a0 : Array Value) (hw : ∀ d ∈ tables_1, d.before a0 Z = true) (hEL : EW Z a0 consts_1) (z0 : Int32) (S0 : Sta Z Z.heap "java/lang/String" "COMPACT_STRINGS" "Z" (.int z0)) (hz0 : ¬ z0 = 0)  (h0 : Heap) (n0 : Nat)  :
    Ct l Z consts_1 [] (⟨"java/lang/StringUTF16", "newBytesLength", "(I)I"⟩ : MethodName) jdk_52_method_3_code 1 (some .int) ({ frames := 0, cells := 0, slots := 0, locals := 0 } : Room) #[(.int (2 : Int32))] h0 n0 [] (fun v _ => v = some (.int (4 : Int32))) := by
  have w : ∀ {d : Jvm.Cond} (i : Nat), tables_1[i]? = some d → d.before a0 Z = true := fun i q => hw _ (List.mem_of_getElem? q)
  refine Ct.enter (plainFor_of_name pn_2) hEL ?_
  intro p e sS m below meth c T0 hby hml0 hret hlk hnm hs0 X0
  have hml : c.maxLocals = 1 := hml0
  have D : ∀ {pc : Nat} {r : Except DecodeError (Instr × Nat)}, decode jdk_52_method_3_code pc = r → decode c.code pc = r := fun q => hb hby q
  rw [show entryFrame m #[(.int (2 : Int32))] 1 = mkF m 0 #[.val (.int (2 : Int32))] [] from by first | (simp [entryFrame, mkF, argsToLocals, Value.category]; done) | rfl]
  refine X0.iloadN (x := (2 : Int32)) (D d20_0) rfl ?_
  refine X0.if_ge 12 (D d20_1) ⟨by decide, by decide⟩ (fun hc265 => ?_) (fun hc265 => absurd hc265 (by decide))
  refine X0.iloadN (x := (2 : Int32)) (D d20_12) rfl ?_
  refine X0.ldcI (w 94 rfl) (D d20_13) ?_
  refine X0.icmp_lt 55 (D d20_15) ⟨by decide, by decide⟩ (fun hc266 => ?_) (fun hc266 => absurd hc266 (by decide))
  refine X0.iloadN (x := (2 : Int32)) (D d20_55) rfl ?_
  refine X0.iconst (x := (1 : Int32)) (D d20_56) rfl ?_
  refine X0.ishl (D d20_57) ?_
  show Goes p.tables e below _ (T0.setTop (mkF m 58 #[.val (.int (2 : Int32))] [(.int (4 : Int32))]))
  exact X0.retI hret hlk (D d20_58) (by decide) (by decide) (rfl)
set_option maxRecDepth 65536 in
set_option maxHeartbeats 40000000 in
theorem ctNF2 (l : Launch) (Z : State) (a0 : Array Value) (hw : ∀ d ∈ tables_1, d.before a0 Z = true) (hEL : EW Z a0 consts_1) (z0 : Int32) (S0 : Sta Z Z.heap "java/lang/String" "COMPACT_STRINGS" "Z" (.int z0)) (hz0 : ¬ z0 = 0)  (h0 : Heap) (n0 : Nat)  :
    CtF l Z consts_1 [] (⟨"java/lang/StringUTF16", "newBytesFor", "(I)[B"⟩ : MethodName) jdk_52_method_2_code 1 (some (.array .byte)) ({ frames := 1, cells := 1, slots := 4, locals := 12 } : Room) #[(.int (2 : Int32))] h0 n0 [] (fun v h F => ∃ (r : Addr) (kr : ClassId), v = some (.ref r) ∧ F = [r] ∧ Arv Z h r kr .byte (4 : Int32) [(.int (0 : Int32)), (.int (0 : Int32)), (.int (0 : Int32)), (.int (0 : Int32))] (.int (0 : Int32))) := by
  have w : ∀ {d : Jvm.Cond} (i : Nat), tables_1[i]? = some d → d.before a0 Z = true := fun i q => hw _ (List.mem_of_getElem? q)
  refine CtF.enter (plainFor_of_name pn_2) hEL ?_
  intro p e sS m below meth c T0 hby hml0 hret hlk hnm hs0 X0
  have hml : c.maxLocals = 1 := hml0
  have D : ∀ {pc : Nat} {r : Except DecodeError (Instr × Nat)}, decode jdk_52_method_2_code pc = r → decode c.code pc = r := fun q => hb hby q
  rw [show entryFrame m #[(.int (2 : Int32))] 1 = mkF m 0 #[.val (.int (2 : Int32))] [] from by first | (simp [entryFrame, mkF, argsToLocals, Value.category]; done) | rfl]
  refine X0.iloadN (x := (2 : Int32)) (D d19_0) rfl ?_
  refine X0.callsF [(.int (2 : Int32))] [] (ctNL2 l Z a0 hw hEL z0 S0 hz0 _ _).toF (w 91 rfl) (w 92 rfl) (w 42 rfl) (w 93 rfl) (by decide) (fun _ q => nomatch q) (by decide) 0 (by decide) (by decide) (by decide) (lenOf pd_2 rfl) rfl (leb rfl) (by rw [hml]; rfl) (D d19_1) ?_
  rintro T267 h268 _ _ X270 K271 hg272 ⟨rfl, rfl⟩
  show Goes p.tables e below _ (T267.setTop (mkF m 4 #[.val (.int (2 : Int32))] [(.int (4 : Int32))]))
  refine X270.newarr (w 23 rfl) (n := (4 : Int32)) (D d19_4) (by decide) 4 (by decide) (by decide) (by decide) (by decide) ?_
  intro T273 h274 b275 kb276 g277 X278 E279 A280
  have ge281 : sS.heap.size ≤ b275 := by rw [g277]; exact X270.kept.1
  have F282 : Arv Z h274 b275 kb276 .byte (4 : Int32) [(.int (0 : Int32)), (.int (0 : Int32)), (.int (0 : Int32)), (.int (0 : Int32))] (.int (0 : Int32)) := A280.pad (pad_rep [] (.int (0 : Int32)) 4)
  exact X278.retAF [b275] (fun x q => by simp only [List.mem_cons, List.not_mem_nil, or_false] at q; rcases q with rfl <;> exact ⟨by simp, by assumption⟩) hret rfl rfl hlk (D d19_6) (by decide) (by decide) (⟨_, _, rfl, rfl, F282⟩)
set_option maxRecDepth 65536 in
set_option maxHeartbeats 40000000 in
theorem ctPC2_0 (l : Launch) (Z : State) (a0 : Array Value) (hw : ∀ d ∈ tables_1, d.before a0 Z = true) (hEL : EW Z a0 consts_1) (z0 : Int32) (S0 : Sta Z Z.heap "java/lang/String" "COMPACT_STRINGS" "Z" (.int z0)) (hz0 : ¬ z0 = 0) (SA1 : Sta Z Z.heap "java/lang/StringUTF16" "$assertionsDisabled" "Z" (.int (1 : Int32))) (SH : Sta Z Z.heap "java/lang/StringUTF16" "HI_BYTE_SHIFT" "I" (.int (0 : Int32))) (SL : Sta Z Z.heap "java/lang/StringUTF16" "LO_BYTE_SHIFT" "I" (.int (8 : Int32))) (r : Addr) (kr : ClassId) (x y0 y1 y2 y3 : Int32) (h0 : Heap) (n0 : Nat) (A0 : Arv Z h0 r kr .byte (4 : Int32) [(.int y0), (.int y1), (.int y2), (.int y3)] (.int (0 : Int32))) :
    Ct l Z consts_1 [] (⟨"java/lang/StringUTF16", "putChar", "([BII)V"⟩ : MethodName) jdk_52_method_4_code 3 none ({ frames := 0, cells := 0, slots := 0, locals := 0 } : Room) #[(.ref r), (.int (0 : Int32)), (.int x)] h0 n0 [r] (fun v h => v = none ∧ Arv Z h r kr .byte (4 : Int32) [(.int (StrChars.lo8 x)), (.int (StrChars.hi8 x)), (.int y2), (.int y3)] (.int (0 : Int32))) := by
  have w : ∀ {d : Jvm.Cond} (i : Nat), tables_1[i]? = some d → d.before a0 Z = true := fun i q => hw _ (List.mem_of_getElem? q)
  refine Ct.enter (plainFor_of_name pn_2) hEL ?_
  intro p e sS m below meth c T0 hby hml0 hret hlk hnm hs0 X0
  have hml : c.maxLocals = 3 := hml0
  have D : ∀ {pc : Nat} {r : Except DecodeError (Instr × Nat)}, decode jdk_52_method_4_code pc = r → decode c.code pc = r := fun q => hb hby q
  rw [show entryFrame m #[(.ref r), (.int (0 : Int32)), (.int x)] 3 = mkF m 0 #[.val (.ref r), .val (.int (0 : Int32)), .val (.int x)] [] from by first | (simp [entryFrame, mkF, argsToLocals, Value.category]; done) | rfl]
  refine X0.gets (w 98 rfl) Via.refl (Sta.ext X0.old.2 SA1) (D d21_0) ?_
  intro T283 X284
  refine X284.if_ne 28 (D d21_3) ⟨by decide, by decide⟩ (fun hc285 => ?_) (fun hc285 => absurd hc285 (by decide))
  refine X284.iloadN (x := (0 : Int32)) (D d21_28) rfl ?_
  refine X284.iconst (x := (1 : Int32)) (D d21_29) rfl ?_
  refine X284.ishl (D d21_30) ?_
  show Goes p.tables e below _ (T283.setTop (mkF m 31 #[.val (.ref r), .val (.int (0 : Int32)), .val (.int x)] [(.int (0 : Int32))]))
  refine X284.istoreN #[.val (.ref r), .val (.int (0 : Int32)), .val (.int x)] (D d21_31) rfl ?_
  refine X284.aloadN (x := (.ref r)) (D d21_32) rfl rfl ?_
  refine X284.iloadN (x := (0 : Int32)) (D d21_33) rfl ?_
  refine X284.iinc #[.val (.ref r), .val (.int (1 : Int32)), .val (.int x)] (D d21_34) rfl rfl ?_
  refine X284.iloadN (x := x) (D d21_37) rfl ?_
  refine X284.gets (w 99 rfl) Via.refl (Sta.ext X284.old.2 SH) (D d21_38) ?_
  intro T286 X287
  refine X287.ishr (D d21_41) ?_
  refine X287.i2b (D d21_42) ?_
  show Goes p.tables e below _ (T286.setTop (mkF m 43 #[.val (.ref r), .val (.int (1 : Int32)), .val (.int x)] [(.int (StrChars.lo8 (x >>> ((0 : Int32) &&& 31)))), (.int (0 : Int32)), (.ref r)]))
  refine X287.bastore A0 ⟨by decide, by decide⟩ 0 rfl (leb rfl) (by simp) (D d21_43) ?_
  intro T288 h289 X290 W291 A292
  have F293 : Arv Z h289 r kr .byte (4 : Int32) [(.int (StrChars.lo8 x)), (.int y1), (.int y2), (.int y3)] (.int (0 : Int32)) := by rw [nar_sh0 x] at A292; exact A292
  refine X290.aloadN (x := (.ref r)) (D d21_44) rfl rfl ?_
  refine X290.iloadN (x := (1 : Int32)) (D d21_45) rfl ?_
  refine X290.iloadN (x := x) (D d21_46) rfl ?_
  refine X290.gets (w 100 rfl) Via.refl (Sta.ext X290.old.2 SL) (D d21_47) ?_
  intro T294 X295
  refine X295.ishr (D d21_50) ?_
  refine X295.i2b (D d21_51) ?_
  show Goes p.tables e below _ (T294.setTop (mkF m 52 #[.val (.ref r), .val (.int (1 : Int32)), .val (.int x)] [(.int (StrChars.lo8 (x >>> ((8 : Int32) &&& 31)))), (.int (1 : Int32)), (.ref r)]))
  refine X295.bastore F293 ⟨by decide, by decide⟩ 1 rfl (leb rfl) (by simp) (D d21_52) ?_
  intro T296 h297 X298 W299 A300
  have F301 : Arv Z h297 r kr .byte (4 : Int32) [(.int (StrChars.lo8 x)), (.int (StrChars.hi8 x)), (.int y2), (.int y3)] (.int (0 : Int32)) := by rw [nar_lo8 (x >>> ((8 : Int32) &&& 31))] at A300; exact A300
  exact X298.retn hret hlk (D d21_53) (by decide) (by decide) (⟨rfl, F301⟩)
set_option maxRecDepth 65536 in
set_option maxHeartbeats 40000000 in
theorem ctPC2_1 (l : Launch) (Z : State) (a0 : Array Value) (hw : ∀ d ∈ tables_1, d.before a0 Z = true) (hEL : EW Z a0 consts_1) (z0 : Int32) (S0 : Sta Z Z.heap "java/lang/String" "COMPACT_STRINGS" "Z" (.int z0)) (hz0 : ¬ z0 = 0) (SA1 : Sta Z Z.heap "java/lang/StringUTF16" "$assertionsDisabled" "Z" (.int (1 : Int32))) (SH : Sta Z Z.heap "java/lang/StringUTF16" "HI_BYTE_SHIFT" "I" (.int (0 : Int32))) (SL : Sta Z Z.heap "java/lang/StringUTF16" "LO_BYTE_SHIFT" "I" (.int (8 : Int32))) (r : Addr) (kr : ClassId) (x y0 y1 y2 y3 : Int32) (h0 : Heap) (n0 : Nat) (A0 : Arv Z h0 r kr .byte (4 : Int32) [(.int y0), (.int y1), (.int y2), (.int y3)] (.int (0 : Int32))) :
    Ct l Z consts_1 [] (⟨"java/lang/StringUTF16", "putChar", "([BII)V"⟩ : MethodName) jdk_52_method_4_code 3 none ({ frames := 0, cells := 0, slots := 0, locals := 0 } : Room) #[(.ref r), (.int (1 : Int32)), (.int x)] h0 n0 [r] (fun v h => v = none ∧ Arv Z h r kr .byte (4 : Int32) [(.int y0), (.int y1), (.int (StrChars.lo8 x)), (.int (StrChars.hi8 x))] (.int (0 : Int32))) := by
  have w : ∀ {d : Jvm.Cond} (i : Nat), tables_1[i]? = some d → d.before a0 Z = true := fun i q => hw _ (List.mem_of_getElem? q)
  refine Ct.enter (plainFor_of_name pn_2) hEL ?_
  intro p e sS m below meth c T0 hby hml0 hret hlk hnm hs0 X0
  have hml : c.maxLocals = 3 := hml0
  have D : ∀ {pc : Nat} {r : Except DecodeError (Instr × Nat)}, decode jdk_52_method_4_code pc = r → decode c.code pc = r := fun q => hb hby q
  rw [show entryFrame m #[(.ref r), (.int (1 : Int32)), (.int x)] 3 = mkF m 0 #[.val (.ref r), .val (.int (1 : Int32)), .val (.int x)] [] from by first | (simp [entryFrame, mkF, argsToLocals, Value.category]; done) | rfl]
  refine X0.gets (w 98 rfl) Via.refl (Sta.ext X0.old.2 SA1) (D d21_0) ?_
  intro T302 X303
  refine X303.if_ne 28 (D d21_3) ⟨by decide, by decide⟩ (fun hc304 => ?_) (fun hc304 => absurd hc304 (by decide))
  refine X303.iloadN (x := (1 : Int32)) (D d21_28) rfl ?_
  refine X303.iconst (x := (1 : Int32)) (D d21_29) rfl ?_
  refine X303.ishl (D d21_30) ?_
  show Goes p.tables e below _ (T302.setTop (mkF m 31 #[.val (.ref r), .val (.int (1 : Int32)), .val (.int x)] [(.int (2 : Int32))]))
  refine X303.istoreN #[.val (.ref r), .val (.int (2 : Int32)), .val (.int x)] (D d21_31) rfl ?_
  refine X303.aloadN (x := (.ref r)) (D d21_32) rfl rfl ?_
  refine X303.iloadN (x := (2 : Int32)) (D d21_33) rfl ?_
  refine X303.iinc #[.val (.ref r), .val (.int (3 : Int32)), .val (.int x)] (D d21_34) rfl rfl ?_
  refine X303.iloadN (x := x) (D d21_37) rfl ?_
  refine X303.gets (w 99 rfl) Via.refl (Sta.ext X303.old.2 SH) (D d21_38) ?_
  intro T305 X306
  refine X306.ishr (D d21_41) ?_
  refine X306.i2b (D d21_42) ?_
  show Goes p.tables e below _ (T305.setTop (mkF m 43 #[.val (.ref r), .val (.int (3 : Int32)), .val (.int x)] [(.int (StrChars.lo8 (x >>> ((0 : Int32) &&& 31)))), (.int (2 : Int32)), (.ref r)]))
  refine X306.bastore A0 ⟨by decide, by decide⟩ 2 rfl (leb rfl) (by simp) (D d21_43) ?_
  intro T307 h308 X309 W310 A311
  have F312 : Arv Z h308 r kr .byte (4 : Int32) [(.int y0), (.int y1), (.int (StrChars.lo8 x)), (.int y3)] (.int (0 : Int32)) := by rw [nar_sh0 x] at A311; exact A311
  refine X309.aloadN (x := (.ref r)) (D d21_44) rfl rfl ?_
  refine X309.iloadN (x := (3 : Int32)) (D d21_45) rfl ?_
  refine X309.iloadN (x := x) (D d21_46) rfl ?_
  refine X309.gets (w 100 rfl) Via.refl (Sta.ext X309.old.2 SL) (D d21_47) ?_
  intro T313 X314
  refine X314.ishr (D d21_50) ?_
  refine X314.i2b (D d21_51) ?_
  show Goes p.tables e below _ (T313.setTop (mkF m 52 #[.val (.ref r), .val (.int (3 : Int32)), .val (.int x)] [(.int (StrChars.lo8 (x >>> ((8 : Int32) &&& 31)))), (.int (3 : Int32)), (.ref r)]))
  refine X314.bastore F312 ⟨by decide, by decide⟩ 3 rfl (leb rfl) (by simp) (D d21_52) ?_
  intro T315 h316 X317 W318 A319
  have F320 : Arv Z h316 r kr .byte (4 : Int32) [(.int y0), (.int y1), (.int (StrChars.lo8 x)), (.int (StrChars.hi8 x))] (.int (0 : Int32)) := by rw [nar_lo8 (x >>> ((8 : Int32) &&& 31))] at A319; exact A319
  exact X317.retn hret hlk (D d21_53) (by decide) (by decide) (⟨rfl, F320⟩)
set_option maxRecDepth 65536 in
set_option maxHeartbeats 40000000 in
theorem ctTB2 (l : Launch) (Z : State) (a0 : Array Value) (hw : ∀ d ∈ tables_1, d.before a0 Z = true) (hEL : EW Z a0 consts_1) (z0 : Int32) (S0 : Sta Z Z.heap "java/lang/String" "COMPACT_STRINGS" "Z" (.int z0)) (hz0 : ¬ z0 = 0) (SA1 : Sta Z Z.heap "java/lang/StringUTF16" "$assertionsDisabled" "Z" (.int (1 : Int32))) (SH : Sta Z Z.heap "java/lang/StringUTF16" "HI_BYTE_SHIFT" "I" (.int (0 : Int32))) (SL : Sta Z Z.heap "java/lang/StringUTF16" "LO_BYTE_SHIFT" "I" (.int (8 : Int32))) (b : Addr) (kb : ClassId) (dv : Value) (c0 c1 : Int32) (h0 : Heap) (n0 : Nat) (A0 : Arv Z h0 b kb .char (2 : Int32) [(.int c0), (.int c1)] dv) :
    Ct l Z consts_1 [] (⟨"java/lang/StringUTF16", "toBytes", "([CII)[B"⟩ : MethodName) jdk_52_method_14_code 5 (some (.array .byte)) ({ frames := 2, cells := 1, slots := 4, locals := 24 } : Room) #[(.ref b), (.int (0 : Int32)), (.int (2 : Int32))] h0 n0 [] (fun v h => ∃ (r : Addr) (kr : ClassId), v = some (.ref r) ∧ Arv Z h r kr .byte (4 : Int32) [(.int (StrChars.lo8 c0)), (.int (StrChars.hi8 c0)), (.int (StrChars.lo8 c1)), (.int (StrChars.hi8 c1))] (.int (0 : Int32))) := by
  have w : ∀ {d : Jvm.Cond} (i : Nat), tables_1[i]? = some d → d.before a0 Z = true := fun i q => hw _ (List.mem_of_getElem? q)
  refine Ct.enter (plainFor_of_name pn_2) hEL ?_
  intro p e sS m below meth c T0 hby hml0 hret hlk hnm hs0 X0
  have hml : c.maxLocals = 5 := hml0
  have D : ∀ {pc : Nat} {r : Except DecodeError (Instr × Nat)}, decode jdk_52_method_14_code pc = r → decode c.code pc = r := fun q => hb hby q
  rw [show entryFrame m #[(.ref b), (.int (0 : Int32)), (.int (2 : Int32))] 5 = mkF m 0 #[.val (.ref b), .val (.int (0 : Int32)), .val (.int (2 : Int32)), .unset, .unset] [] from by first | (simp [entryFrame, mkF, argsToLocals, Value.category]; done) | rfl]
  refine X0.iloadN (x := (2 : Int32)) (D d18_0) rfl ?_
  refine X0.callsF [(.int (2 : Int32))] [] (ctNF2 l Z a0 hw hEL z0 S0 hz0 _ _) (w 88 rfl) (w 89 rfl) (w 42 rfl) (w 90 rfl) (by decide) (fun _ q => nomatch q) (by decide) 0 (by decide) (by decide) (by decide) (lenOf pd_3 rfl) rfl (leb rfl) (by rw [hml]; rfl) (D d18_1) ?_
  rintro T321 h322 _ _ X324 K325 hg326 ⟨r, kr, rfl, rfl, A1⟩
  have F327 := A0.keep K325 nin0
  have fg328 := hg326 r (by simp)
  have lt329 : b < r := Nat.lt_of_lt_of_le A0.lt fg328
  show Goes p.tables e below _ (T321.setTop (mkF m 4 #[.val (.ref b), .val (.int (0 : Int32)), .val (.int (2 : Int32)), .unset, .unset] [(.ref r)]))
  refine X324.astoreN #[.val (.ref b), .val (.int (0 : Int32)), .val (.int (2 : Int32)), .val (.ref r), .unset] (D d18_4) rfl rfl ?_
  refine X324.iconst (x := (0 : Int32)) (D d18_5) rfl ?_
  refine X324.istore #[.val (.ref b), .val (.int (0 : Int32)), .val (.int (2 : Int32)), .val (.ref r), .val (.int (0 : Int32))] (D d18_6) rfl ?_
  refine X324.iload (x := (0 : Int32)) (D d18_8) rfl ?_
  refine X324.iloadN (x := (2 : Int32)) (D d18_10) rfl ?_
  refine X324.icmp_ge 32 (D d18_11) ⟨by decide, by decide⟩ (fun hc330 => absurd hc330 (by decide)) (fun hc330 => ?_)
  refine X324.aloadN (x := (.ref r)) (D d18_14) rfl rfl ?_
  refine X324.iload (x := (0 : Int32)) (D d18_15) rfl ?_
  refine X324.aloadN (x := (.ref b)) (D d18_17) rfl rfl ?_
  refine X324.iloadN (x := (0 : Int32)) (D d18_18) rfl ?_
  show Goes p.tables e below _ (T321.setTop (mkF m 19 #[.val (.ref b), .val (.int (0 : Int32)), .val (.int (2 : Int32)), .val (.ref r), .val (.int (0 : Int32))] [(.int (0 : Int32)), (.ref b), (.int (0 : Int32)), (.ref r)]))
  refine X324.caload (v := (.int c0)) F327 ⟨by decide, by decide⟩ rfl (D d18_19) ?_
  refine X324.calls [(.ref r), (.int (0 : Int32)), (.int c0)] [] (ctPC2_0 l Z a0 hw hEL z0 S0 hz0 SA1 SH SL r kr c0 (0 : Int32) (0 : Int32) (0 : Int32) (0 : Int32) _ _ A1) (w 95 rfl) (w 96 rfl) (w 42 rfl) (w 97 rfl) (by decide) (by simp) (by decide) 0 (by decide) (by decide) (by decide) (lenOf pd_4 rfl) rfl (leb rfl) (by rw [hml]; rfl) (D d18_20) ?_
  rintro T332 h333 _ X335 K336 ⟨rfl, G331⟩
  have F337 := F327.keep K336 (ninS (Nat.ne_of_lt lt329) nin0)
  show Goes p.tables e below _ (T332.setTop (mkF m 23 #[.val (.ref b), .val (.int (0 : Int32)), .val (.int (2 : Int32)), .val (.ref r), .val (.int (0 : Int32))] []))
  refine X335.iinc #[.val (.ref b), .val (.int (1 : Int32)), .val (.int (2 : Int32)), .val (.ref r), .val (.int (0 : Int32))] (D d18_23) rfl rfl ?_
  refine X335.iinc #[.val (.ref b), .val (.int (1 : Int32)), .val (.int (2 : Int32)), .val (.ref r), .val (.int (1 : Int32))] (D d18_26) rfl rfl ?_
  refine X335.goto 8 (D d18_29) ⟨by decide, by decide⟩ ?_
  refine X335.iload (x := (1 : Int32)) (D d18_8) rfl ?_
  refine X335.iloadN (x := (2 : Int32)) (D d18_10) rfl ?_
  refine X335.icmp_ge 32 (D d18_11) ⟨by decide, by decide⟩ (fun hc338 => absurd hc338 (by decide)) (fun hc338 => ?_)
  refine X335.aloadN (x := (.ref r)) (D d18_14) rfl rfl ?_
  refine X335.iload (x := (1 : Int32)) (D d18_15) rfl ?_
  refine X335.aloadN (x := (.ref b)) (D d18_17) rfl rfl ?_
  refine X335.iloadN (x := (1 : Int32)) (D d18_18) rfl ?_
  show Goes p.tables e below _ (T332.setTop (mkF m 19 #[.val (.ref b), .val (.int (1 : Int32)), .val (.int (2 : Int32)), .val (.ref r), .val (.int (1 : Int32))] [(.int (1 : Int32)), (.ref b), (.int (1 : Int32)), (.ref r)]))
  refine X335.caload (v := (.int c1)) F337 ⟨by decide, by decide⟩ rfl (D d18_19) ?_
  refine X335.calls [(.ref r), (.int (1 : Int32)), (.int c1)] [] (ctPC2_1 l Z a0 hw hEL z0 S0 hz0 SA1 SH SL r kr c1 (StrChars.lo8 c0) (StrChars.hi8 c0) (0 : Int32) (0 : Int32) _ _ G331) (w 95 rfl) (w 96 rfl) (w 42 rfl) (w 97 rfl) (by decide) (by simp) (by decide) 0 (by decide) (by decide) (by decide) (lenOf pd_4 rfl) rfl (leb rfl) (by rw [hml]; rfl) (D d18_20) ?_
  rintro T340 h341 _ X343 K344 ⟨rfl, G339⟩
  have F345 := F337.keep K344 (ninS (Nat.ne_of_lt lt329) nin0)
  show Goes p.tables e below _ (T340.setTop (mkF m 23 #[.val (.ref b), .val (.int (1 : Int32)), .val (.int (2 : Int32)), .val (.ref r), .val (.int (1 : Int32))] []))
  refine X343.iinc #[.val (.ref b), .val (.int (2 : Int32)), .val (.int (2 : Int32)), .val (.ref r), .val (.int (1 : Int32))] (D d18_23) rfl rfl ?_
  refine X343.iinc #[.val (.ref b), .val (.int (2 : Int32)), .val (.int (2 : Int32)), .val (.ref r), .val (.int (2 : Int32))] (D d18_26) rfl rfl ?_
  refine X343.goto 8 (D d18_29) ⟨by decide, by decide⟩ ?_
  refine X343.iload (x := (2 : Int32)) (D d18_8) rfl ?_
  refine X343.iloadN (x := (2 : Int32)) (D d18_10) rfl ?_
  refine X343.icmp_ge 32 (D d18_11) ⟨by decide, by decide⟩ (fun hc346 => ?_) (fun hc346 => absurd hc346 (by decide))
  refine X343.aloadN (x := (.ref r)) (D d18_32) rfl rfl ?_
  exact X343.retA hret rfl rfl hlk (D d18_33) (by decide) (by decide) (⟨r, kr, rfl, G339⟩)
set_option maxRecDepth 65536 in
set_option maxHeartbeats 40000000 in
theorem ctGC2_0 (l : Launch) (Z : State) (a0 : Array Value) (hw : ∀ d ∈ tables_1, d.before a0 Z = true) (hEL : EW Z a0 consts_1) (z0 : Int32) (S0 : Sta Z Z.heap "java/lang/String" "COMPACT_STRINGS" "Z" (.int z0)) (hz0 : ¬ z0 = 0) (SA1 : Sta Z Z.heap "java/lang/StringUTF16" "$assertionsDisabled" "Z" (.int (1 : Int32))) (SH : Sta Z Z.heap "java/lang/StringUTF16" "HI_BYTE_SHIFT" "I" (.int (0 : Int32))) (SL : Sta Z Z.heap "java/lang/StringUTF16" "LO_BYTE_SHIFT" "I" (.int (8 : Int32))) (r : Addr) (kr : ClassId) (c0 c1 : Int32) (h0 : Heap) (n0 : Nat) (A0 : Arv Z h0 r kr .byte (4 : Int32) [(.int (StrChars.lo8 c0)), (.int (StrChars.hi8 c0)), (.int (StrChars.lo8 c1)), (.int (StrChars.hi8 c1))] (.int (0 : Int32))) (r0 : Rc c0) :
    Ct l Z consts_1 [] (⟨"java/lang/StringUTF16", "getChar", "([BI)C"⟩ : MethodName) jdk_52_method_5_code 2 (some .char) ({ frames := 0, cells := 0, slots := 0, locals := 0 } : Room) #[(.ref r), (.int (0 : Int32))] h0 n0 [] (fun v _ => v = some (.int c0)) := by
  have w : ∀ {d : Jvm.Cond} (i : Nat), tables_1[i]? = some d → d.before a0 Z = true := fun i q => hw _ (List.mem_of_getElem? q)
  refine Ct.enter (plainFor_of_name pn_2) hEL ?_
  intro p e sS m below meth c T0 hby hml0 hret hlk hnm hs0 X0
  have hml : c.maxLocals = 2 := hml0
  have D : ∀ {pc : Nat} {r : Except DecodeError (Instr × Nat)}, decode jdk_52_method_5_code pc = r → decode c.code pc = r := fun q => hb hby q
  rw [show entryFrame m #[(.ref r), (.int (0 : Int32))] 2 = mkF m 0 #[.val (.ref r), .val (.int (0 : Int32))] [] from by first | (simp [entryFrame, mkF, argsToLocals, Value.category]; done) | rfl]
  refine X0.gets (w 98 rfl) Via.refl (Sta.ext X0.old.2 SA1) (D d22_0) ?_
  intro T347 X348
  refine X348.if_ne 28 (D d22_3) ⟨by decide, by decide⟩ (fun hc349 => ?_) (fun hc349 => absurd hc349 (by decide))
  refine X348.iloadN (x := (0 : Int32)) (D d22_28) rfl ?_
  refine X348.iconst (x := (1 : Int32)) (D d22_29) rfl ?_
  refine X348.ishl (D d22_30) ?_
  show Goes p.tables e below _ (T347.setTop (mkF m 31 #[.val (.ref r), .val (.int (0 : Int32))] [(.int (0 : Int32))]))
  refine X348.istoreN #[.val (.ref r), .val (.int (0 : Int32))] (D d22_31) rfl ?_
  refine X348.aloadN (x := (.ref r)) (D d22_32) rfl rfl ?_
  refine X348.iloadN (x := (0 : Int32)) (D d22_33) rfl ?_
  refine X348.iinc #[.val (.ref r), .val (.int (1 : Int32))] (D d22_34) rfl rfl ?_
  show Goes p.tables e below _ (T347.setTop (mkF m 37 #[.val (.ref r), .val (.int (1 : Int32))] [(.int (0 : Int32)), (.ref r)]))
  refine X348.baload (v := (.int (StrChars.lo8 c0))) A0 ⟨by decide, by decide⟩ rfl (D d22_37) ?_
  refine X348.sipush (x := (255 : Int32)) (D d22_38) rfl ?_
  refine X348.iand (D d22_41) ?_
  refine X348.gets (w 99 rfl) Via.refl (Sta.ext X348.old.2 SH) (D d22_42) ?_
  intro T350 X351
  refine X351.ishl (D d22_45) ?_
  refine X351.aloadN (x := (.ref r)) (D d22_46) rfl rfl ?_
  refine X351.iloadN (x := (1 : Int32)) (D d22_47) rfl ?_
  show Goes p.tables e below _ (T350.setTop (mkF m 48 #[.val (.ref r), .val (.int (1 : Int32))] [(.int (1 : Int32)), (.ref r), (.int (((StrChars.lo8 c0) &&& (255 : Int32)) <<< ((0 : Int32) &&& 31)))]))
  refine X351.baload (v := (.int (StrChars.hi8 c0))) A0 ⟨by decide, by decide⟩ rfl (D d22_48) ?_
  refine X351.sipush (x := (255 : Int32)) (D d22_49) rfl ?_
  refine X351.iand (D d22_52) ?_
  refine X351.gets (w 100 rfl) Via.refl (Sta.ext X351.old.2 SL) (D d22_53) ?_
  intro T352 X353
  refine X353.ishl (D d22_56) ?_
  refine X353.ior (D d22_57) ?_
  refine X353.i2c (D d22_58) ?_
  exact X353.reti hret (by simp) hlk (D d22_59) (by decide) (by decide) (ret_pair r0)
set_option maxRecDepth 65536 in
set_option maxHeartbeats 40000000 in
theorem ctGC2_1 (l : Launch) (Z : State) (a0 : Array Value) (hw : ∀ d ∈ tables_1, d.before a0 Z = true) (hEL : EW Z a0 consts_1) (z0 : Int32) (S0 : Sta Z Z.heap "java/lang/String" "COMPACT_STRINGS" "Z" (.int z0)) (hz0 : ¬ z0 = 0) (SA1 : Sta Z Z.heap "java/lang/StringUTF16" "$assertionsDisabled" "Z" (.int (1 : Int32))) (SH : Sta Z Z.heap "java/lang/StringUTF16" "HI_BYTE_SHIFT" "I" (.int (0 : Int32))) (SL : Sta Z Z.heap "java/lang/StringUTF16" "LO_BYTE_SHIFT" "I" (.int (8 : Int32))) (r : Addr) (kr : ClassId) (c0 c1 : Int32) (h0 : Heap) (n0 : Nat) (A0 : Arv Z h0 r kr .byte (4 : Int32) [(.int (StrChars.lo8 c0)), (.int (StrChars.hi8 c0)), (.int (StrChars.lo8 c1)), (.int (StrChars.hi8 c1))] (.int (0 : Int32))) (r1 : Rc c1) :
    Ct l Z consts_1 [] (⟨"java/lang/StringUTF16", "getChar", "([BI)C"⟩ : MethodName) jdk_52_method_5_code 2 (some .char) ({ frames := 0, cells := 0, slots := 0, locals := 0 } : Room) #[(.ref r), (.int (1 : Int32))] h0 n0 [] (fun v _ => v = some (.int c1)) := by
  have w : ∀ {d : Jvm.Cond} (i : Nat), tables_1[i]? = some d → d.before a0 Z = true := fun i q => hw _ (List.mem_of_getElem? q)
  refine Ct.enter (plainFor_of_name pn_2) hEL ?_
  intro p e sS m below meth c T0 hby hml0 hret hlk hnm hs0 X0
  have hml : c.maxLocals = 2 := hml0
  have D : ∀ {pc : Nat} {r : Except DecodeError (Instr × Nat)}, decode jdk_52_method_5_code pc = r → decode c.code pc = r := fun q => hb hby q
  rw [show entryFrame m #[(.ref r), (.int (1 : Int32))] 2 = mkF m 0 #[.val (.ref r), .val (.int (1 : Int32))] [] from by first | (simp [entryFrame, mkF, argsToLocals, Value.category]; done) | rfl]
  refine X0.gets (w 98 rfl) Via.refl (Sta.ext X0.old.2 SA1) (D d22_0) ?_
  intro T354 X355
  refine X355.if_ne 28 (D d22_3) ⟨by decide, by decide⟩ (fun hc356 => ?_) (fun hc356 => absurd hc356 (by decide))
  refine X355.iloadN (x := (1 : Int32)) (D d22_28) rfl ?_
  refine X355.iconst (x := (1 : Int32)) (D d22_29) rfl ?_
  refine X355.ishl (D d22_30) ?_
  show Goes p.tables e below _ (T354.setTop (mkF m 31 #[.val (.ref r), .val (.int (1 : Int32))] [(.int (2 : Int32))]))
  refine X355.istoreN #[.val (.ref r), .val (.int (2 : Int32))] (D d22_31) rfl ?_
  refine X355.aloadN (x := (.ref r)) (D d22_32) rfl rfl ?_
  refine X355.iloadN (x := (2 : Int32)) (D d22_33) rfl ?_
  refine X355.iinc #[.val (.ref r), .val (.int (3 : Int32))] (D d22_34) rfl rfl ?_
  show Goes p.tables e below _ (T354.setTop (mkF m 37 #[.val (.ref r), .val (.int (3 : Int32))] [(.int (2 : Int32)), (.ref r)]))
  refine X355.baload (v := (.int (StrChars.lo8 c1))) A0 ⟨by decide, by decide⟩ rfl (D d22_37) ?_
  refine X355.sipush (x := (255 : Int32)) (D d22_38) rfl ?_
  refine X355.iand (D d22_41) ?_
  refine X355.gets (w 99 rfl) Via.refl (Sta.ext X355.old.2 SH) (D d22_42) ?_
  intro T357 X358
  refine X358.ishl (D d22_45) ?_
  refine X358.aloadN (x := (.ref r)) (D d22_46) rfl rfl ?_
  refine X358.iloadN (x := (3 : Int32)) (D d22_47) rfl ?_
  show Goes p.tables e below _ (T357.setTop (mkF m 48 #[.val (.ref r), .val (.int (3 : Int32))] [(.int (3 : Int32)), (.ref r), (.int (((StrChars.lo8 c1) &&& (255 : Int32)) <<< ((0 : Int32) &&& 31)))]))
  refine X358.baload (v := (.int (StrChars.hi8 c1))) A0 ⟨by decide, by decide⟩ rfl (D d22_48) ?_
  refine X358.sipush (x := (255 : Int32)) (D d22_49) rfl ?_
  refine X358.iand (D d22_52) ?_
  refine X358.gets (w 100 rfl) Via.refl (Sta.ext X358.old.2 SL) (D d22_53) ?_
  intro T359 X360
  refine X360.ishl (D d22_56) ?_
  refine X360.ior (D d22_57) ?_
  refine X360.i2c (D d22_58) ?_
  exact X360.reti hret (by simp) hlk (D d22_59) (by decide) (by decide) (ret_pair r1)
set_option maxRecDepth 65536 in
set_option maxHeartbeats 40000000 in
theorem ctC3_2 (l : Launch) (Z : State) (a0 : Array Value) (hw : ∀ d ∈ tables_1, d.before a0 Z = true) (hEL : EW Z a0 consts_1) (z0 : Int32) (S0 : Sta Z Z.heap "java/lang/String" "COMPACT_STRINGS" "Z" (.int z0)) (hz0 : ¬ z0 = 0) (SA1 : Sta Z Z.heap "java/lang/StringUTF16" "$assertionsDisabled" "Z" (.int (1 : Int32))) (SH : Sta Z Z.heap "java/lang/StringUTF16" "HI_BYTE_SHIFT" "I" (.int (0 : Int32))) (SL : Sta Z Z.heap "java/lang/StringUTF16" "LO_BYTE_SHIFT" "I" (.int (8 : Int32))) (b : Addr) (kb : ClassId) (dv : Value) (c0 c1 : Int32) (h0 : Heap) (n0 : Nat) (A0 : Arv Z h0 b kb .char (2 : Int32) [(.int c0), (.int c1)] dv) (r0 : Rc c0) (r1 : Rc c1) (hwide : ¬ ∀ c ∈ [c0, c1], ¬ (255 : Int32) < c) :
    Ct l Z consts_1 [] (⟨"java/lang/StringUTF16", "compress", "([CII)[B"⟩ : MethodName) jdk_52_method_16_code 6 (some (.array .byte)) ({ frames := 3, cells := 2, slots := 6, locals := 40 } : Room) #[(.ref b), (.int (0 : Int32)), (.int (2 : Int32))] h0 n0 [] (fun v h => ∃ (r : Addr) (kr : ClassId), v = some (.ref r) ∧ Arv Z h r kr .byte (4 : Int32) [(.int (StrChars.lo8 c0)), (.int (StrChars.hi8 c0)), (.int (StrChars.lo8 c1)), (.int (StrChars.hi8 c1))] (.int (0 : Int32))) := by
  have w : ∀ {d : Jvm.Cond} (i : Nat), tables_1[i]? = some d → d.before a0 Z = true := fun i q => hw _ (List.mem_of_getElem? q)
  refine Ct.enter (plainFor_of_name pn_2) hEL ?_
  intro p e sS m below meth c T0 hby hml0 hret hlk hnm hs0 X0
  have hml : c.maxLocals = 6 := hml0
  have D : ∀ {pc : Nat} {r : Except DecodeError (Instr × Nat)}, decode jdk_52_method_16_code pc = r → decode c.code pc = r := fun q => hb hby q
  rw [show entryFrame m #[(.ref b), (.int (0 : Int32)), (.int (2 : Int32))] 6 = mkF m 0 #[.val (.ref b), .val (.int (0 : Int32)), .val (.int (2 : Int32)), .unset, .unset, .unset] [] from by first | (simp [entryFrame, mkF, argsToLocals, Value.category]; done) | rfl]
  refine X0.iloadN (x := (2 : Int32)) (D d7_0) rfl ?_
  refine X0.newarr (w 23 rfl) (n := (2 : Int32)) (D d7_1) (by decide) 2 (by decide) (by decide) (by decide) (by decide) ?_
  intro T361 h362 b363 kb364 g365 X366 E367 A368
  have F369 := A0.ext E367
  have lt370 : b < b363 := by rw [g365]; exact A0.lt
  have F371 : Arv Z h362 b363 kb364 .byte (2 : Int32) [(.int (0 : Int32)), (.int (0 : Int32))] (.int (0 : Int32)) := A368.pad (pad_rep [] (.int (0 : Int32)) 2)
  refine X366.astoreN #[.val (.ref b), .val (.int (0 : Int32)), .val (.int (2 : Int32)), .val (.ref b363), .unset, .unset] (D d7_3) rfl rfl ?_
  refine X366.aloadN (x := (.ref b)) (D d7_4) rfl rfl ?_
  refine X366.iloadN (x := (0 : Int32)) (D d7_5) rfl ?_
  refine X366.aloadN (x := (.ref b363)) (D d7_6) rfl rfl ?_
  refine X366.iconst (x := (0 : Int32)) (D d7_7) rfl ?_
  refine X366.iloadN (x := (2 : Int32)) (D d7_8) rfl ?_
  show Goes p.tables e below _ (T361.setTop (mkF m 9 #[.val (.ref b), .val (.int (0 : Int32)), .val (.int (2 : Int32)), .val (.ref b363), .unset, .unset] [(.int (2 : Int32)), (.int (0 : Int32)), (.ref b363), (.int (0 : Int32)), (.ref b)]))
  by_cases hj0 : (255 : Int32) < c0
  · show Goes p.tables e below _ (T361.setTop (mkF m 9 #[.val (.ref b), .val (.int (0 : Int32)), .val (.int (2 : Int32)), .val (.ref b363), .unset, .unset] [(.int (2 : Int32)), (.int (0 : Int32)), (.ref b363), (.int (0 : Int32)), (.ref b)]))
    refine X366.calls [(.ref b), (.int (0 : Int32)), (.ref b363), (.int (0 : Int32)), (.int (2 : Int32))] [] (ctC5_2_0 l Z a0 hw hEL z0 S0 hz0 b b363 _ _ _ c0 c1 _ _ F369 F371 hj0) (w 44 rfl) (w 45 rfl) (w 42 rfl) (w 46 rfl) (by decide) (by simp) (by decide) 0 (by decide) (by decide) (by decide) (lenOf pd_5 rfl) rfl (leb rfl) (by rw [hml]; rfl) (D d7_9) ?_
    rintro T372 h373 _ X375 K376 rfl
    have F377 := F369.keep K376 (ninS (Nat.ne_of_lt lt370) nin0)
    show Goes p.tables e below _ (T372.setTop (mkF m 12 #[.val (.ref b), .val (.int (0 : Int32)), .val (.int (2 : Int32)), .val (.ref b363), .unset, .unset] [(.int (0 : Int32))]))
    refine X375.istore #[.val (.ref b), .val (.int (0 : Int32)), .val (.int (2 : Int32)), .val (.ref b363), .val (.int (0 : Int32)), .unset] (D d7_12) rfl ?_
    refine X375.iload (x := (0 : Int32)) (D d7_14) rfl ?_
    refine X375.iloadN (x := (2 : Int32)) (D d7_16) rfl ?_
    refine X375.icmp_eq 57 (D d7_17) ⟨by decide, by decide⟩ (fun hc378 => absurd hc378 (by decide)) (fun hc378 => ?_)
    refine X375.aloadN (x := (.ref b)) (D d7_20) rfl rfl ?_
    refine X375.iloadN (x := (0 : Int32)) (D d7_21) rfl ?_
    refine X375.iloadN (x := (2 : Int32)) (D d7_22) rfl ?_
    refine X375.calls [(.ref b), (.int (0 : Int32)), (.int (2 : Int32))] [] (ctTB2 l Z a0 hw hEL z0 S0 hz0 SA1 SH SL b _ _ c0 c1 _ _ F377) (w 85 rfl) (w 86 rfl) (w 42 rfl) (w 87 rfl) (by decide) (fun _ q => nomatch q) (by decide) 0 (by decide) (by decide) (by decide) (lenOf pd_6 rfl) rfl (leb rfl) (by rw [hml]; rfl) (D d7_23) ?_
    rintro T379 h380 _ X382 K383 ⟨r, kr, rfl, A9⟩
    have F384 := F377.keep K383 nin0
    show Goes p.tables e below _ (T379.setTop (mkF m 26 #[.val (.ref b), .val (.int (0 : Int32)), .val (.int (2 : Int32)), .val (.ref b363), .val (.int (0 : Int32)), .unset] [(.ref r)]))
    refine X382.astore #[.val (.ref b), .val (.int (0 : Int32)), .val (.int (2 : Int32)), .val (.ref b363), .val (.int (0 : Int32)), .val (.ref r)] (D d7_26) rfl rfl ?_
    refine X382.aload (x := (.ref r)) (D d7_28) rfl rfl ?_
    refine X382.iload (x := (0 : Int32)) (D d7_30) rfl ?_
    refine X382.calls [(.ref r), (.int (0 : Int32))] [] (ctGC2_0 l Z a0 hw hEL z0 S0 hz0 SA1 SH SL r kr c0 c1 _ _ A9 r0) (w 101 rfl) (w 102 rfl) (w 42 rfl) (w 103 rfl) (by decide) (fun _ q => nomatch q) (by decide) 0 (by decide) (by decide) (by decide) (lenOf pd_7 rfl) rfl (leb rfl) (by rw [hml]; rfl) (D d7_32) ?_
    rintro T385 h386 _ X388 K389 rfl
    have F390 := F384.keep K389 nin0
    have F391 := A9.keep K389 nin0
    show Goes p.tables e below _ (T385.setTop (mkF m 35 #[.val (.ref b), .val (.int (0 : Int32)), .val (.int (2 : Int32)), .val (.ref b363), .val (.int (0 : Int32)), .val (.ref r)] [(.int c0)]))
    refine X388.sipush (x := (255 : Int32)) (D d7_35) rfl ?_
    refine X388.icmp_gt 54 (D d7_38) ⟨by decide, by decide⟩ (fun hn392 => ?_) (fun hc => (hc hj0).elim)
    refine X388.aload (x := (.ref r)) (D d7_54) rfl rfl ?_
    exact X388.retA hret rfl rfl hlk (D d7_56) (by decide) (by decide) (⟨r, kr, rfl, F391⟩)
  · show Goes p.tables e below _ (T361.setTop (mkF m 9 #[.val (.ref b), .val (.int (0 : Int32)), .val (.int (2 : Int32)), .val (.ref b363), .unset, .unset] [(.int (2 : Int32)), (.int (0 : Int32)), (.ref b363), (.int (0 : Int32)), (.ref b)]))
    show Goes p.tables e below _ (T361.setTop (mkF m 9 #[.val (.ref b), .val (.int (0 : Int32)), .val (.int (2 : Int32)), .val (.ref b363), .unset, .unset] [(.int (2 : Int32)), (.int (0 : Int32)), (.ref b363), (.int (0 : Int32)), (.ref b)]))
    by_cases hj1 : (255 : Int32) < c1
    · show Goes p.tables e below _ (T361.setTop (mkF m 9 #[.val (.ref b), .val (.int (0 : Int32)), .val (.int (2 : Int32)), .val (.ref b363), .unset, .unset] [(.int (2 : Int32)), (.int (0 : Int32)), (.ref b363), (.int (0 : Int32)), (.ref b)]))
      refine X366.calls [(.ref b), (.int (0 : Int32)), (.ref b363), (.int (0 : Int32)), (.int (2 : Int32))] [] (ctC5_2_1 l Z a0 hw hEL z0 S0 hz0 b b363 _ _ _ c0 c1 _ _ F369 F371 hj1 hj0) (w 44 rfl) (w 45 rfl) (w 42 rfl) (w 46 rfl) (by decide) (by simp) (by decide) 0 (by decide) (by decide) (by decide) (lenOf pd_5 rfl) rfl (leb rfl) (by rw [hml]; rfl) (D d7_9) ?_
      rintro T393 h394 _ X396 K397 rfl
      have F398 := F369.keep K397 (ninS (Nat.ne_of_lt lt370) nin0)
      show Goes p.tables e below _ (T393.setTop (mkF m 12 #[.val (.ref b), .val (.int (0 : Int32)), .val (.int (2 : Int32)), .val (.ref b363), .unset, .unset] [(.int (1 : Int32))]))
      refine X396.istore #[.val (.ref b), .val (.int (0 : Int32)), .val (.int (2 : Int32)), .val (.ref b363), .val (.int (1 : Int32)), .unset] (D d7_12) rfl ?_
      refine X396.iload (x := (1 : Int32)) (D d7_14) rfl ?_
      refine X396.iloadN (x := (2 : Int32)) (D d7_16) rfl ?_
      refine X396.icmp_eq 57 (D d7_17) ⟨by decide, by decide⟩ (fun hc399 => absurd hc399 (by decide)) (fun hc399 => ?_)
      refine X396.aloadN (x := (.ref b)) (D d7_20) rfl rfl ?_
      refine X396.iloadN (x := (0 : Int32)) (D d7_21) rfl ?_
      refine X396.iloadN (x := (2 : Int32)) (D d7_22) rfl ?_
      refine X396.calls [(.ref b), (.int (0 : Int32)), (.int (2 : Int32))] [] (ctTB2 l Z a0 hw hEL z0 S0 hz0 SA1 SH SL b _ _ c0 c1 _ _ F398) (w 85 rfl) (w 86 rfl) (w 42 rfl) (w 87 rfl) (by decide) (fun _ q => nomatch q) (by decide) 0 (by decide) (by decide) (by decide) (lenOf pd_6 rfl) rfl (leb rfl) (by rw [hml]; rfl) (D d7_23) ?_
      rintro T400 h401 _ X403 K404 ⟨r, kr, rfl, A9⟩
      have F405 := F398.keep K404 nin0
      show Goes p.tables e below _ (T400.setTop (mkF m 26 #[.val (.ref b), .val (.int (0 : Int32)), .val (.int (2 : Int32)), .val (.ref b363), .val (.int (1 : Int32)), .unset] [(.ref r)]))
      refine X403.astore #[.val (.ref b), .val (.int (0 : Int32)), .val (.int (2 : Int32)), .val (.ref b363), .val (.int (1 : Int32)), .val (.ref r)] (D d7_26) rfl rfl ?_
      refine X403.aload (x := (.ref r)) (D d7_28) rfl rfl ?_
      refine X403.iload (x := (1 : Int32)) (D d7_30) rfl ?_
      refine X403.calls [(.ref r), (.int (1 : Int32))] [] (ctGC2_1 l Z a0 hw hEL z0 S0 hz0 SA1 SH SL r kr c0 c1 _ _ A9 r1) (w 101 rfl) (w 102 rfl) (w 42 rfl) (w 103 rfl) (by decide) (fun _ q => nomatch q) (by decide) 0 (by decide) (by decide) (by decide) (lenOf pd_7 rfl) rfl (leb rfl) (by rw [hml]; rfl) (D d7_32) ?_
      rintro T406 h407 _ X409 K410 rfl
      have F411 := F405.keep K410 nin0
      have F412 := A9.keep K410 nin0
      show Goes p.tables e below _ (T406.setTop (mkF m 35 #[.val (.ref b), .val (.int (0 : Int32)), .val (.int (2 : Int32)), .val (.ref b363), .val (.int (1 : Int32)), .val (.ref r)] [(.int c1)]))
      refine X409.sipush (x := (255 : Int32)) (D d7_35) rfl ?_
      refine X409.icmp_gt 54 (D d7_38) ⟨by decide, by decide⟩ (fun hn413 => ?_) (fun hc => (hc hj1).elim)
      refine X409.aload (x := (.ref r)) (D d7_54) rfl rfl ?_
      exact X409.retA hret rfl rfl hlk (D d7_56) (by decide) (by decide) (⟨r, kr, rfl, F412⟩)
    · show Goes p.tables e below _ (T361.setTop (mkF m 9 #[.val (.ref b), .val (.int (0 : Int32)), .val (.int (2 : Int32)), .val (.ref b363), .unset, .unset] [(.int (2 : Int32)), (.int (0 : Int32)), (.ref b363), (.int (0 : Int32)), (.ref b)]))
      exact (hwide (hpS hj0 (hpS hj1 hp0))).elim
set_option maxRecDepth 65536 in
set_option maxHeartbeats 40000000 in
theorem ctCF2 (l : Launch) (Z : State) (a0 : Array Value) (hw : ∀ d ∈ tables_1, d.before a0 Z = true) (hEL : EW Z a0 consts_1) (z0 : Int32) (S0 : Sta Z Z.heap "java/lang/String" "COMPACT_STRINGS" "Z" (.int z0)) (hz0 : ¬ z0 = 0) (r : Addr) (kr : ClassId) (vs : List Value) (dv : Value) (h0 : Heap) (n0 : Nat) (A0 : Arv Z h0 r kr .byte (4 : Int32) vs dv) :
    Ct l Z consts_1 [] (⟨"java/lang/StringUTF16", "coderFromArrayLen", "([BI)B"⟩ : MethodName) jdk_52_method_15_code 2 (some .byte) ({ frames := 0, cells := 0, slots := 0, locals := 0 } : Room) #[(.ref r), (.int (2 : Int32))] h0 n0 [] (fun v _ => v = some (.int (1 : Int32))) := by
  have w : ∀ {d : Jvm.Cond} (i : Nat), tables_1[i]? = some d → d.before a0 Z = true := fun i q => hw _ (List.mem_of_getElem? q)
  refine Ct.enter (plainFor_of_name pn_2) hEL ?_
  intro p e sS m below meth c T0 hby hml0 hret hlk hnm hs0 X0
  have hml : c.maxLocals = 2 := hml0
  have D : ∀ {pc : Nat} {r : Except DecodeError (Instr × Nat)}, decode jdk_52_method_15_code pc = r → decode c.code pc = r := fun q => hb hby q
  rw [show entryFrame m #[(.ref r), (.int (2 : Int32))] 2 = mkF m 0 #[.val (.ref r), .val (.int (2 : Int32))] [] from by first | (simp [entryFrame, mkF, argsToLocals, Value.category]; done) | rfl]
  refine X0.iloadN (x := (2 : Int32)) (D d9_0) rfl ?_
  refine X0.aloadN (x := (.ref r)) (D d9_1) rfl rfl ?_
  refine X0.alen A0 (D d9_2) ?_
  refine X0.isub (D d9_3) ?_
  show Goes p.tables e below _ (T0.setTop (mkF m 4 #[.val (.ref r), .val (.int (2 : Int32))] [(.int (-2 : Int32))]))
  refine X0.bipush (x := (31 : Int32)) (D d9_4) rfl ?_
  refine X0.iushr (D d9_6) ?_
  show Goes p.tables e below _ (T0.setTop (mkF m 7 #[.val (.ref r), .val (.int (2 : Int32))] [(.int (1 : Int32))]))
  refine X0.i2b (D d9_7) ?_
  show Goes p.tables e below _ (T0.setTop (mkF m 8 #[.val (.ref r), .val (.int (2 : Int32))] [(.int (1 : Int32))]))
  exact X0.reti hret (by simp) hlk (D d9_8) (by decide) (by decide) (rfl)
set_option maxRecDepth 65536 in
set_option maxHeartbeats 40000000 in
theorem ctI4_2 (l : Launch) (Z : State) (a0 : Array Value) (hw : ∀ d ∈ tables_1, d.before a0 Z = true) (hEL : EW Z a0 consts_1) (z0 : Int32) (S0 : Sta Z Z.heap "java/lang/String" "COMPACT_STRINGS" "Z" (.int z0)) (hz0 : ¬ z0 = 0) (SA1 : Sta Z Z.heap "java/lang/StringUTF16" "$assertionsDisabled" "Z" (.int (1 : Int32))) (SH : Sta Z Z.heap "java/lang/StringUTF16" "HI_BYTE_SHIFT" "I" (.int (0 : Int32))) (SL : Sta Z Z.heap "java/lang/StringUTF16" "LO_BYTE_SHIFT" "I" (.int (8 : Int32))) (a b : Addr) (kb : ClassId) (dv : Value) (c0 c1 : Int32) (h0 : Heap) (n0 : Nat) (E0 : Exa Z h0 a "java/lang/String") (F0 : Fld Z h0 a "java/lang/String" "value" "[B" .null) (F1 : Fld Z h0 a "java/lang/String" "coder" "B" (.int (0 : Int32))) (A0 : Arv Z h0 b kb .char (2 : Int32) [(.int c0), (.int c1)] dv) (r0 : Rc c0) (r1 : Rc c1) (hwide : ¬ ∀ c ∈ [c0, c1], ¬ (255 : Int32) < c) :
    Ct l Z consts_1 [] (⟨"java/lang/String", "<init>", "([CIILjava/lang/Void;)V"⟩ : MethodName) jdk_42_method_149_code 6 none ({ frames := 4, cells := 2, slots := 6, locals := 57 } : Room) #[(.ref a), (.ref b), (.int (0 : Int32)), (.int (2 : Int32)), .null] h0 n0 [a] (fun v h => v = none ∧ ∃ t : Addr, UStr Z h a t [c0, c1]) := by
  have w : ∀ {d : Jvm.Cond} (i : Nat), tables_1[i]? = some d → d.before a0 Z = true := fun i q => hw _ (List.mem_of_getElem? q)
  refine Ct.enter (plainFor_of_name pn_1) hEL ?_
  intro p e sS m below meth c T0 hby hml0 hret hlk hnm hs0 X0
  have hml : c.maxLocals = 6 := hml0
  have D : ∀ {pc : Nat} {r : Except DecodeError (Instr × Nat)}, decode jdk_42_method_149_code pc = r → decode c.code pc = r := fun q => hb hby q
  rw [show entryFrame m #[(.ref a), (.ref b), (.int (0 : Int32)), (.int (2 : Int32)), .null] 6 = mkF m 0 #[.val (.ref a), .val (.ref b), .val (.int (0 : Int32)), .val (.int (2 : Int32)), .val .null, .unset] [] from by first | (simp [entryFrame, mkF, argsToLocals, Value.category]; done) | rfl]
  refine X0.aloadN (x := (.ref a)) (D d3_0) rfl rfl ?_
  refine X0.inito (w 19 rfl) (w 20 rfl) (w 21 rfl) (D d3_1) (by rw [hml]; rfl) (by decide) 0 (leb rfl) (by decide) ?_
  intro T414 X415
  refine X415.iloadN (x := (2 : Int32)) (D d3_4) rfl ?_
  refine X415.if_ne 27 (D d3_5) ⟨by decide, by decide⟩ (fun hc416 => ?_) (fun hc416 => absurd hc416 (by decide))
  refine X415.gets (w 39 rfl) Via.refl (Sta.ext X415.old.2 S0) (D d3_27) ?_
  intro T417 X418
  refine X418.if_eq 58 (D d3_30) ⟨by decide, by decide⟩ (fun hc => (hz0 hc).elim) (fun hn419 => ?_)
  refine X418.aloadN (x := (.ref b)) (D d3_33) rfl rfl ?_
  refine X418.iloadN (x := (0 : Int32)) (D d3_34) rfl ?_
  refine X418.iloadN (x := (2 : Int32)) (D d3_35) rfl ?_
  refine X418.calls [(.ref b), (.int (0 : Int32)), (.int (2 : Int32))] [] (ctC3_2 l Z a0 hw hEL z0 S0 hz0 SA1 SH SL b _ _ c0 c1 _ _ A0 r0 r1 hwide) (w 40 rfl) (w 41 rfl) (w 42 rfl) (w 43 rfl) (by decide) (fun _ q => nomatch q) (by decide) 0 (by decide) (by decide) (by decide) (lenOf pd_6 rfl) rfl (leb rfl) (by rw [hml]; rfl) (D d3_36) ?_
  rintro T420 h421 _ X423 K424 ⟨r, kr, rfl, A9⟩
  have F425 := E0.keep K424
  have F426 := F0.keep K424 nin0
  have F427 := F1.keep K424 nin0
  have F428 := A0.keep K424 nin0
  show Goes p.tables e below _ (T420.setTop (mkF m 39 #[.val (.ref a), .val (.ref b), .val (.int (0 : Int32)), .val (.int (2 : Int32)), .val .null, .unset] [(.ref r)]))
  refine X423.astore #[.val (.ref a), .val (.ref b), .val (.int (0 : Int32)), .val (.int (2 : Int32)), .val .null, .val (.ref r)] (D d3_39) rfl rfl ?_
  refine X423.aloadN (x := (.ref a)) (D d3_41) rfl rfl ?_
  refine X423.aload (x := (.ref r)) (D d3_42) rfl rfl ?_
  refine X423.iloadN (x := (2 : Int32)) (D d3_44) rfl ?_
  refine X423.calls [(.ref r), (.int (2 : Int32))] [(.ref a)] (ctCF2 l Z a0 hw hEL z0 S0 hz0 r kr _ _ _ _ A9) (w 47 rfl) (w 48 rfl) (w 42 rfl) (w 49 rfl) (by decide) (fun _ q => nomatch q) (by decide) 1 (by decide) (by decide) (by decide) (lenOf pd_8 rfl) rfl (leb rfl) (by rw [hml]; rfl) (D d3_45) ?_
  rintro T429 h430 _ X432 K433 rfl
  have F434 := F425.keep K433
  have F435 := F426.keep K433 nin0
  have F436 := F427.keep K433 nin0
  have F437 := F428.keep K433 nin0
  have F438 := A9.keep K433 nin0
  show Goes p.tables e below _ (T429.setTop (mkF m 48 #[.val (.ref a), .val (.ref b), .val (.int (0 : Int32)), .val (.int (2 : Int32)), .val .null, .val (.ref r)] [(.int (1 : Int32)), (.ref a)]))
  refine X432.putf (w 29 rfl) Via.refl F436 F434 (Or.inr ⟨(w 25 rfl), rfl, hnm⟩) (w 9 rfl) (ty := .byte) (by decide) rfl rfl (D d3_48) (by simp) ?_
  intro T439 h440 X441 W442
  have F443 := F436.same W442
  have F444 := F434.wr W442
  have F445 := F435.other W442 (Or.inr (slot_ne (t := (.array .byte)) (t' := .byte) (Or.inr (w 24 rfl)) (Or.inr (w 25 rfl)) (by decide) (by decide) (by decide)))
  have F446 := F437.other W442 (Exa.neArv F434 F437 (w 9 rfl)).symm
  have F447 := F438.other W442 (Exa.neArv F434 F438 (w 9 rfl)).symm
  refine X441.aloadN (x := (.ref a)) (D d3_51) rfl rfl ?_
  refine X441.aload (x := (.ref r)) (D d3_52) rfl rfl ?_
  refine X441.putf (w 28 rfl) Via.refl F445 F444 (Or.inr ⟨(w 24 rfl), rfl, hnm⟩) (w 9 rfl) (ty := (.array .byte)) (by decide) rfl rfl (D d3_54) (by simp) ?_
  intro T448 h449 X450 W451
  have F452 := F445.same W451
  have F453 := F444.wr W451
  have F454 := F446.other W451 (Exa.neArv F444 F446 (w 9 rfl)).symm
  have F455 := F447.other W451 (Exa.neArv F444 F447 (w 9 rfl)).symm
  have F456 := F443.other W451 (Or.inr (slot_ne (t := .byte) (t' := (.array .byte)) (Or.inr (w 25 rfl)) (Or.inr (w 24 rfl)) (by decide) (by decide) (by decide)))
  exact X450.retn hret hlk (D d3_57) (by decide) (by decide) (⟨rfl, r, F453, kr, F452, F456, F455⟩)
set_option maxRecDepth 65536 in
set_option maxHeartbeats 40000000 in
theorem ctI1_2 (l : Launch) (Z : State) (a0 : Array Value) (hw : ∀ d ∈ tables_1, d.before a0 Z = true) (hEL : EW Z a0 consts_1) (z0 : Int32) (S0 : Sta Z Z.heap "java/lang/String" "COMPACT_STRINGS" "Z" (.int z0)) (hz0 : ¬ z0 = 0) (SA1 : Sta Z Z.heap "java/lang/StringUTF16" "$assertionsDisabled" "Z" (.int (1 : Int32))) (SH : Sta Z Z.heap "java/lang/StringUTF16" "HI_BYTE_SHIFT" "I" (.int (0 : Int32))) (SL : Sta Z Z.heap "java/lang/StringUTF16" "LO_BYTE_SHIFT" "I" (.int (8 : Int32))) (a b : Addr) (kb : ClassId) (dv : Value) (c0 c1 : Int32) (h0 : Heap) (n0 : Nat) (E0 : Exa Z h0 a "java/lang/String") (F0 : Fld Z h0 a "java/lang/String" "value" "[B" .null) (F1 : Fld Z h0 a "java/lang/String" "coder" "B" (.int (0 : Int32))) (A0 : Arv Z h0 b kb .char (2 : Int32) [(.int c0), (.int c1)] dv) (r0 : Rc c0) (r1 : Rc c1) (hwide : ¬ ∀ c ∈ [c0, c1], ¬ (255 : Int32) < c) :
    Ct l Z consts_1 [] (⟨"java/lang/String", "<init>", "([C)V"⟩ : MethodName) jdk_42_method_3_code 2 none ({ frames := 5, cells := 2, slots := 6, locals := 74 } : Room) #[(.ref a), (.ref b)] h0 n0 [a] (fun v h => v = none ∧ ∃ t : Addr, UStr Z h a t [c0, c1]) := by
  have w : ∀ {d : Jvm.Cond} (i : Nat), tables_1[i]? = some d → d.before a0 Z = true := fun i q => hw _ (List.mem_of_getElem? q)
  refine Ct.enter (plainFor_of_name pn_1) hEL ?_
  intro p e sS m below meth c T0 hby hml0 hret hlk hnm hs0 X0
  have hml : c.maxLocals = 2 := hml0
  have D : ∀ {pc : Nat} {r : Except DecodeError (Instr × Nat)}, decode jdk_42_method_3_code pc = r → decode c.code pc = r := fun q => hb hby q
  rw [show entryFrame m #[(.ref a), (.ref b)] 2 = mkF m 0 #[.val (.ref a), .val (.ref b)] [] from by first | (simp [entryFrame, mkF, argsToLocals, Value.category]; done) | rfl]
  refine X0.aloadN (x := (.ref a)) (D d2_0) rfl rfl ?_
  refine X0.aloadN (x := (.ref b)) (D d2_1) rfl rfl ?_
  refine X0.iconst (x := (0 : Int32)) (D d2_2) rfl ?_
  refine X0.aloadN (x := (.ref b)) (D d2_3) rfl rfl ?_
  refine X0.alen A0 (D d2_4) ?_
  refine X0.anull (D d2_5) ?_
  refine X0.callc (a := a) [(.ref b), (.int (0 : Int32)), (.int (2 : Int32)), .null] [] (ctI4_2 l Z a0 hw hEL z0 S0 hz0 SA1 SH SL a b _ _ c0 c1 _ _ E0 F0 F1 A0 r0 r1 hwide) rfl (w 15 rfl) (w 16 rfl) (w 10 rfl) (w 18 rfl) (by decide) (by simp) (by decide) 0 (by decide) (by decide) (by decide) (lenOf pd_1 rfl) rfl (leb rfl) (by rw [hml]; rfl) (D d2_6) ?_
  rintro T457 h458 _ X460 K461 ⟨rfl, t, O⟩
  have F462 := E0.keep K461
  have F463 := A0.keep K461 (ninS (Exa.neArv E0 A0 (w 9 rfl)).symm nin0)
  show Goes p.tables e below _ (T457.setTop (mkF m 9 #[.val (.ref a), .val (.ref b)] []))
  exact X460.retn hret hlk (D d2_9) (by decide) (by decide) (⟨rfl, t, O⟩)
set_option maxRecDepth 65536 in
set_option maxHeartbeats 40000000 in
theorem ctC5_3_0 (l : Launch) (Z : State) (a0 : Array Value) (hw : ∀ d ∈ tables_1, d.before a0 Z = true) (hEL : EW Z a0 consts_1) (z0 : Int32) (S0 : Sta Z Z.heap "java/lang/String" "COMPACT_STRINGS" "Z" (.int z0)) (hz0 : ¬ z0 = 0) (b d : Addr) (kb kd : ClassId) (dv : Value) (c0 c1 c2 : Int32) (h0 : Heap) (n0 : Nat) (A0 : Arv Z h0 b kb .char (3 : Int32) [(.int c0), (.int c1), (.int c2)] dv) (A1 : Arv Z h0 d kd .byte (3 : Int32) [(.int (0 : Int32)), (.int (0 : Int32)), (.int (0 : Int32))] (.int (0 : Int32))) (hk : (255 : Int32) < c0) :
    Ct l Z consts_1 [] (⟨"java/lang/StringUTF16", "compress", "([CI[BII)I"⟩ : MethodName) jdk_52_method_21_code 7 (some .int) ({ frames := 0, cells := 0, slots := 0, locals := 0 } : Room) #[(.ref b), (.int (0 : Int32)), (.ref d), (.int (0 : Int32)), (.int (3 : Int32))] h0 n0 [d] (fun v _ => v = some (.int (0 : Int32))) := by
  have w : ∀ {d : Jvm.Cond} (i : Nat), tables_1[i]? = some d → d.before a0 Z = true := fun i q => hw _ (List.mem_of_getElem? q)
  refine Ct.enter (plainFor_of_name pn_2) hEL ?_
  intro p e sS m below meth c T0 hby hml0 hret hlk hnm hs0 X0
  have hml : c.maxLocals = 7 := hml0
  have D : ∀ {pc : Nat} {r : Except DecodeError (Instr × Nat)}, decode jdk_52_method_21_code pc = r → decode c.code pc = r := fun q => hb hby q
  rw [show entryFrame m #[(.ref b), (.int (0 : Int32)), (.ref d), (.int (0 : Int32)), (.int (3 : Int32))] 7 = mkF m 0 #[.val (.ref b), .val (.int (0 : Int32)), .val (.ref d), .val (.int (0 : Int32)), .val (.int (3 : Int32)), .unset, .unset] [] from by first | (simp [entryFrame, mkF, argsToLocals, Value.category]; done) | rfl]
  refine X0.iconst (x := (0 : Int32)) (D d8_0) rfl ?_
  refine X0.istore #[.val (.ref b), .val (.int (0 : Int32)), .val (.ref d), .val (.int (0 : Int32)), .val (.int (3 : Int32)), .val (.int (0 : Int32)), .unset] (D d8_1) rfl ?_
  refine X0.iload (x := (0 : Int32)) (D d8_3) rfl ?_
  refine X0.iload (x := (3 : Int32)) (D d8_5) rfl ?_
  refine X0.icmp_ge 44 (D d8_7) ⟨by decide, by decide⟩ (fun hc464 => absurd hc464 (by decide)) (fun hc464 => ?_)
  refine X0.aloadN (x := (.ref b)) (D d8_10) rfl rfl ?_
  refine X0.iloadN (x := (0 : Int32)) (D d8_11) rfl ?_
  show Goes p.tables e below _ (T0.setTop (mkF m 12 #[.val (.ref b), .val (.int (0 : Int32)), .val (.ref d), .val (.int (0 : Int32)), .val (.int (3 : Int32)), .val (.int (0 : Int32)), .unset] [(.int (0 : Int32)), (.ref b)]))
  refine X0.caload (v := (.int c0)) A0 ⟨by decide, by decide⟩ rfl (D d8_12) ?_
  refine X0.istore #[.val (.ref b), .val (.int (0 : Int32)), .val (.ref d), .val (.int (0 : Int32)), .val (.int (3 : Int32)), .val (.int (0 : Int32)), .val (.int c0)] (D d8_13) rfl ?_
  refine X0.iload (x := c0) (D d8_15) rfl ?_
  refine X0.sipush (x := (255 : Int32)) (D d8_17) rfl ?_
  refine X0.icmp_le 26 (D d8_20) ⟨by decide, by decide⟩ (fun hc => (hc hk).elim) (fun hn465 => ?_)
  refine X0.iload (x := (0 : Int32)) (D d8_23) rfl ?_
  exact X0.retI hret hlk (D d8_25) (by decide) (by decide) (rfl)
set_option maxRecDepth 65536 in
set_option maxHeartbeats 40000000 in
theorem ctC5_3_1 (l : Launch) (Z : State) (a0 : Array Value) (hw : ∀ d ∈ tables_1, d.before a0 Z = true) (hEL : EW Z a0 consts_1) (z0 : Int32) (S0 : Sta Z Z.heap "java/lang/String" "COMPACT_STRINGS" "Z" (.int z0)) (hz0 : ¬ z0 = 0) (b d : Addr) (kb kd : ClassId) (dv : Value) (c0 c1 c2 : Int32) (h0 : Heap) (n0 : Nat) (A0 : Arv Z h0 b kb .char (3 : Int32) [(.int c0), (.int c1), (.int c2)] dv) (A1 : Arv Z h0 d kd .byte (3 : Int32) [(.int (0 : Int32)), (.int (0 : Int32)), (.int (0 : Int32))] (.int (0 : Int32))) (hk : (255 : Int32) < c1) (hj0 : ¬ (255 : Int32) < c0) :
    Ct l Z consts_1 [] (⟨"java/lang/StringUTF16", "compress", "([CI[BII)I"⟩ : MethodName) jdk_52_method_21_code 7 (some .int) ({ frames := 0, cells := 0, slots := 0, locals := 0 } : Room) #[(.ref b), (.int (0 : Int32)), (.ref d), (.int (0 : Int32)), (.int (3 : Int32))] h0 n0 [d] (fun v _ => v = some (.int (1 : Int32))) := by
  have w : ∀ {d : Jvm.Cond} (i : Nat), tables_1[i]? = some d → d.before a0 Z = true := fun i q => hw _ (List.mem_of_getElem? q)
  refine Ct.enter (plainFor_of_name pn_2) hEL ?_
  intro p e sS m below meth c T0 hby hml0 hret hlk hnm hs0 X0
  have hml : c.maxLocals = 7 := hml0
  have D : ∀ {pc : Nat} {r : Except DecodeError (Instr × Nat)}, decode jdk_52_method_21_code pc = r → decode c.code pc = r := fun q => hb hby q
  rw [show entryFrame m #[(.ref b), (.int (0 : Int32)), (.ref d), (.int (0 : Int32)), (.int (3 : Int32))] 7 = mkF m 0 #[.val (.ref b), .val (.int (0 : Int32)), .val (.ref d), .val (.int (0 : Int32)), .val (.int (3 : Int32)), .unset, .unset] [] from by first | (simp [entryFrame, mkF, argsToLocals, Value.category]; done) | rfl]
  refine X0.iconst (x := (0 : Int32)) (D d8_0) rfl ?_
  refine X0.istore #[.val (.ref b), .val (.int (0 : Int32)), .val (.ref d), .val (.int (0 : Int32)), .val (.int (3 : Int32)), .val (.int (0 : Int32)), .unset] (D d8_1) rfl ?_
  refine X0.iload (x := (0 : Int32)) (D d8_3) rfl ?_
  refine X0.iload (x := (3 : Int32)) (D d8_5) rfl ?_
  refine X0.icmp_ge 44 (D d8_7) ⟨by decide, by decide⟩ (fun hc466 => absurd hc466 (by decide)) (fun hc466 => ?_)
  refine X0.aloadN (x := (.ref b)) (D d8_10) rfl rfl ?_
  refine X0.iloadN (x := (0 : Int32)) (D d8_11) rfl ?_
  show Goes p.tables e below _ (T0.setTop (mkF m 12 #[.val (.ref b), .val (.int (0 : Int32)), .val (.ref d), .val (.int (0 : Int32)), .val (.int (3 : Int32)), .val (.int (0 : Int32)), .unset] [(.int (0 : Int32)), (.ref b)]))
  refine X0.caload (v := (.int c0)) A0 ⟨by decide, by decide⟩ rfl (D d8_12) ?_
  refine X0.istore #[.val (.ref b), .val (.int (0 : Int32)), .val (.ref d), .val (.int (0 : Int32)), .val (.int (3 : Int32)), .val (.int (0 : Int32)), .val (.int c0)] (D d8_13) rfl ?_
  refine X0.iload (x := c0) (D d8_15) rfl ?_
  refine X0.sipush (x := (255 : Int32)) (D d8_17) rfl ?_
  refine X0.icmp_le 26 (D d8_20) ⟨by decide, by decide⟩ (fun hn467 => ?_) (fun hc => (hj0 hc).elim)
  refine X0.aloadN (x := (.ref d)) (D d8_26) rfl rfl ?_
  refine X0.iloadN (x := (0 : Int32)) (D d8_27) rfl ?_
  refine X0.iload (x := c0) (D d8_28) rfl ?_
  refine X0.i2b (D d8_30) ?_
  show Goes p.tables e below _ (T0.setTop (mkF m 31 #[.val (.ref b), .val (.int (0 : Int32)), .val (.ref d), .val (.int (0 : Int32)), .val (.int (3 : Int32)), .val (.int (0 : Int32)), .val (.int c0)] [(.int (StrChars.lo8 c0)), (.int (0 : Int32)), (.ref d)]))
  refine X0.bastore A1 ⟨by decide, by decide⟩ 0 rfl (leb rfl) (by simp) (D d8_31) ?_
  intro T468 h469 X470 W471 A472
  have F473 := A0.other W471 (arvTy A0 A1 (by decide))
  have F474 : Arv Z h469 d kd .byte (3 : Int32) [(.int (StrChars.lo8 c0)), (.int (0 : Int32)), (.int (0 : Int32))] (.int (0 : Int32)) := by rw [nar_lo8 c0] at A472; exact A472
  refine X470.iinc #[.val (.ref b), .val (.int (1 : Int32)), .val (.ref d), .val (.int (0 : Int32)), .val (.int (3 : Int32)), .val (.int (0 : Int32)), .val (.int c0)] (D d8_32) rfl rfl ?_
  refine X470.iinc #[.val (.ref b), .val (.int (1 : Int32)), .val (.ref d), .val (.int (1 : Int32)), .val (.int (3 : Int32)), .val (.int (0 : Int32)), .val (.int c0)] (D d8_35) rfl rfl ?_
  refine X470.iinc #[.val (.ref b), .val (.int (1 : Int32)), .val (.ref d), .val (.int (1 : Int32)), .val (.int (3 : Int32)), .val (.int (1 : Int32)), .val (.int c0)] (D d8_38) rfl rfl ?_
  refine X470.goto 3 (D d8_41) ⟨by decide, by decide⟩ ?_
  refine X470.iload (x := (1 : Int32)) (D d8_3) rfl ?_
  refine X470.iload (x := (3 : Int32)) (D d8_5) rfl ?_
  refine X470.icmp_ge 44 (D d8_7) ⟨by decide, by decide⟩ (fun hc475 => absurd hc475 (by decide)) (fun hc475 => ?_)
  refine X470.aloadN (x := (.ref b)) (D d8_10) rfl rfl ?_
  refine X470.iloadN (x := (1 : Int32)) (D d8_11) rfl ?_
  show Goes p.tables e below _ (T468.setTop (mkF m 12 #[.val (.ref b), .val (.int (1 : Int32)), .val (.ref d), .val (.int (1 : Int32)), .val (.int (3 : Int32)), .val (.int (1 : Int32)), .val (.int c0)] [(.int (1 : Int32)), (.ref b)]))
  refine X470.caload (v := (.int c1)) F473 ⟨by decide, by decide⟩ rfl (D d8_12) ?_
  refine X470.istore #[.val (.ref b), .val (.int (1 : Int32)), .val (.ref d), .val (.int (1 : Int32)), .val (.int (3 : Int32)), .val (.int (1 : Int32)), .val (.int c1)] (D d8_13) rfl ?_
  refine X470.iload (x := c1) (D d8_15) rfl ?_
  refine X470.sipush (x := (255 : Int32)) (D d8_17) rfl ?_
  refine X470.icmp_le 26 (D d8_20) ⟨by decide, by decide⟩ (fun hc => (hc hk).elim) (fun hn476 => ?_)
  refine X470.iload (x := (1 : Int32)) (D d8_23) rfl ?_
  exact X470.retI hret hlk (D d8_25) (by decide) (by decide) (rfl)
set_option maxRecDepth 65536 in
set_option maxHeartbeats 40000000 in
theorem ctC5_3_2 (l : Launch) (Z : State) (a0 : Array Value) (hw : ∀ d ∈ tables_1, d.before a0 Z = true) (hEL : EW Z a0 consts_1) (z0 : Int32) (S0 : Sta Z Z.heap "java/lang/String" "COMPACT_STRINGS" "Z" (.int z0)) (hz0 : ¬ z0 = 0) (b d : Addr) (kb kd : ClassId) (dv : Value) (c0 c1 c2 : Int32) (h0 : Heap) (n0 : Nat) (A0 : Arv Z h0 b kb .char (3 : Int32) [(.int c0), (.int c1), (.int c2)] dv) (A1 : Arv Z h0 d kd .byte (3 : Int32) [(.int (0 : Int32)), (.int (0 : Int32)), (.int (0 : Int32))] (.int (0 : Int32))) (hk : (255 : Int32) < c2) (hj0 : ¬ (255 : Int32) < c0) (hj1 : ¬ (255 : Int32) < c1) :
    Ct l Z consts_1 [] (⟨"java/lang/StringUTF16", "compress", "([CI[BII)I"⟩ : MethodName) jdk_52_method_21_code 7 (some .int) ({ frames := 0, cells := 0, slots := 0, locals := 0 } : Room) #[(.ref b), (.int (0 : Int32)), (.ref d), (.int (0 : Int32)), (.int (3 : Int32))] h0 n0 [d] (fun v _ => v = some (.int (2 : Int32))) := by
  have w : ∀ {d : Jvm.Cond} (i : Nat), tables_1[i]? = some d → d.before a0 Z = true := fun i q => hw _ (List.mem_of_getElem? q)
  refine Ct.enter (plainFor_of_name pn_2) hEL ?_
  intro p e sS m below meth c T0 hby hml0 hret hlk hnm hs0 X0
  have hml : c.maxLocals = 7 := hml0
  have D : ∀ {pc : Nat} {r : Except DecodeError (Instr × Nat)}, decode jdk_52_method_21_code pc = r → decode c.code pc = r := fun q => hb hby q
  rw [show entryFrame m #[(.ref b), (.int (0 : Int32)), (.ref d), (.int (0 : Int32)), (.int (3 : Int32))] 7 = mkF m 0 #[.val (.ref b), .val (.int (0 : Int32)), .val (.ref d), .val (.int (0 : Int32)), .val (.int (3 : Int32)), .unset, .unset] [] from by first | (simp [entryFrame, mkF, argsToLocals, Value.category]; done) | rfl]
  refine X0.iconst (x := (0 : Int32)) (D d8_0) rfl ?_
  refine X0.istore #[.val (.ref b), .val (.int (0 : Int32)), .val (.ref d), .val (.int (0 : Int32)), .val (.int (3 : Int32)), .val (.int (0 : Int32)), .unset] (D d8_1) rfl ?_
  refine X0.iload (x := (0 : Int32)) (D d8_3) rfl ?_
  refine X0.iload (x := (3 : Int32)) (D d8_5) rfl ?_
  refine X0.icmp_ge 44 (D d8_7) ⟨by decide, by decide⟩ (fun hc477 => absurd hc477 (by decide)) (fun hc477 => ?_)
  refine X0.aloadN (x := (.ref b)) (D d8_10) rfl rfl ?_
  refine X0.iloadN (x := (0 : Int32)) (D d8_11) rfl ?_
  show Goes p.tables e below _ (T0.setTop (mkF m 12 #[.val (.ref b), .val (.int (0 : Int32)), .val (.ref d), .val (.int (0 : Int32)), .val (.int (3 : Int32)), .val (.int (0 : Int32)), .unset] [(.int (0 : Int32)), (.ref b)]))
  refine X0.caload (v := (.int c0)) A0 ⟨by decide, by decide⟩ rfl (D d8_12) ?_
  refine X0.istore #[.val (.ref b), .val (.int (0 : Int32)), .val (.ref d), .val (.int (0 : Int32)), .val (.int (3 : Int32)), .val (.int (0 : Int32)), .val (.int c0)] (D d8_13) rfl ?_
  refine X0.iload (x := c0) (D d8_15) rfl ?_
  refine X0.sipush (x := (255 : Int32)) (D d8_17) rfl ?_
  refine X0.icmp_le 26 (D d8_20) ⟨by decide, by decide⟩ (fun hn478 => ?_) (fun hc => (hj0 hc).elim)
  refine X0.aloadN (x := (.ref d)) (D d8_26) rfl rfl ?_
  refine X0.iloadN (x := (0 : Int32)) (D d8_27) rfl ?_
  refine X0.iload (x := c0) (D d8_28) rfl ?_
  refine X0.i2b (D d8_30) ?_
  show Goes p.tables e below _ (T0.setTop (mkF m 31 #[.val (.ref b), .val (.int (0 : Int32)), .val (.ref d), .val (.int (0 : Int32)), .val (.int (3 : Int32)), .val (.int (0 : Int32)), .val (.int c0)] [(.int (StrChars.lo8 c0)), (.int (0 : Int32)), (.ref d)]))
  refine X0.bastore A1 ⟨by decide, by decide⟩ 0 rfl (leb rfl) (by simp) (D d8_31) ?_
  intro T479 h480 X481 W482 A483
  have F484 := A0.other W482 (arvTy A0 A1 (by decide))
  have F485 : Arv Z h480 d kd .byte (3 : Int32) [(.int (StrChars.lo8 c0)), (.int (0 : Int32)), (.int (0 : Int32))] (.int (0 : Int32)) := by rw [nar_lo8 c0] at A483; exact A483
  refine X481.iinc #[.val (.ref b), .val (.int (1 : Int32)), .val (.ref d), .val (.int (0 : Int32)), .val (.int (3 : Int32)), .val (.int (0 : Int32)), .val (.int c0)] (D d8_32) rfl rfl ?_
  refine X481.iinc #[.val (.ref b), .val (.int (1 : Int32)), .val (.ref d), .val (.int (1 : Int32)), .val (.int (3 : Int32)), .val (.int (0 : Int32)), .val (.int c0)] (D d8_35) rfl rfl ?_
  refine X481.iinc #[.val (.ref b), .val (.int (1 : Int32)), .val (.ref d), .val (.int (1 : Int32)), .val (.int (3 : Int32)), .val (.int (1 : Int32)), .val (.int c0)] (D d8_38) rfl rfl ?_
  refine X481.goto 3 (D d8_41) ⟨by decide, by decide⟩ ?_
  refine X481.iload (x := (1 : Int32)) (D d8_3) rfl ?_
  refine X481.iload (x := (3 : Int32)) (D d8_5) rfl ?_
  refine X481.icmp_ge 44 (D d8_7) ⟨by decide, by decide⟩ (fun hc486 => absurd hc486 (by decide)) (fun hc486 => ?_)
  refine X481.aloadN (x := (.ref b)) (D d8_10) rfl rfl ?_
  refine X481.iloadN (x := (1 : Int32)) (D d8_11) rfl ?_
  show Goes p.tables e below _ (T479.setTop (mkF m 12 #[.val (.ref b), .val (.int (1 : Int32)), .val (.ref d), .val (.int (1 : Int32)), .val (.int (3 : Int32)), .val (.int (1 : Int32)), .val (.int c0)] [(.int (1 : Int32)), (.ref b)]))
  refine X481.caload (v := (.int c1)) F484 ⟨by decide, by decide⟩ rfl (D d8_12) ?_
  refine X481.istore #[.val (.ref b), .val (.int (1 : Int32)), .val (.ref d), .val (.int (1 : Int32)), .val (.int (3 : Int32)), .val (.int (1 : Int32)), .val (.int c1)] (D d8_13) rfl ?_
  refine X481.iload (x := c1) (D d8_15) rfl ?_
  refine X481.sipush (x := (255 : Int32)) (D d8_17) rfl ?_
  refine X481.icmp_le 26 (D d8_20) ⟨by decide, by decide⟩ (fun hn487 => ?_) (fun hc => (hj1 hc).elim)
  refine X481.aloadN (x := (.ref d)) (D d8_26) rfl rfl ?_
  refine X481.iloadN (x := (1 : Int32)) (D d8_27) rfl ?_
  refine X481.iload (x := c1) (D d8_28) rfl ?_
  refine X481.i2b (D d8_30) ?_
  show Goes p.tables e below _ (T479.setTop (mkF m 31 #[.val (.ref b), .val (.int (1 : Int32)), .val (.ref d), .val (.int (1 : Int32)), .val (.int (3 : Int32)), .val (.int (1 : Int32)), .val (.int c1)] [(.int (StrChars.lo8 c1)), (.int (1 : Int32)), (.ref d)]))
  refine X481.bastore F485 ⟨by decide, by decide⟩ 1 rfl (leb rfl) (by simp) (D d8_31) ?_
  intro T488 h489 X490 W491 A492
  have F493 := F484.other W491 (arvTy F484 F485 (by decide))
  have F494 : Arv Z h489 d kd .byte (3 : Int32) [(.int (StrChars.lo8 c0)), (.int (StrChars.lo8 c1)), (.int (0 : Int32))] (.int (0 : Int32)) := by rw [nar_lo8 c1] at A492; exact A492
  refine X490.iinc #[.val (.ref b), .val (.int (2 : Int32)), .val (.ref d), .val (.int (1 : Int32)), .val (.int (3 : Int32)), .val (.int (1 : Int32)), .val (.int c1)] (D d8_32) rfl rfl ?_
  refine X490.iinc #[.val (.ref b), .val (.int (2 : Int32)), .val (.ref d), .val (.int (2 : Int32)), .val (.int (3 : Int32)), .val (.int (1 : Int32)), .val (.int c1)] (D d8_35) rfl rfl ?_
  refine X490.iinc #[.val (.ref b), .val (.int (2 : Int32)), .val (.ref d), .val (.int (2 : Int32)), .val (.int (3 : Int32)), .val (.int (2 : Int32)), .val (.int c1)] (D d8_38) rfl rfl ?_
  refine X490.goto 3 (D d8_41) ⟨by decide, by decide⟩ ?_
  refine X490.iload (x := (2 : Int32)) (D d8_3) rfl ?_
  refine X490.iload (x := (3 : Int32)) (D d8_5) rfl ?_
  refine X490.icmp_ge 44 (D d8_7) ⟨by decide, by decide⟩ (fun hc495 => absurd hc495 (by decide)) (fun hc495 => ?_)
  refine X490.aloadN (x := (.ref b)) (D d8_10) rfl rfl ?_
  refine X490.iloadN (x := (2 : Int32)) (D d8_11) rfl ?_
  show Goes p.tables e below _ (T488.setTop (mkF m 12 #[.val (.ref b), .val (.int (2 : Int32)), .val (.ref d), .val (.int (2 : Int32)), .val (.int (3 : Int32)), .val (.int (2 : Int32)), .val (.int c1)] [(.int (2 : Int32)), (.ref b)]))
  refine X490.caload (v := (.int c2)) F493 ⟨by decide, by decide⟩ rfl (D d8_12) ?_
  refine X490.istore #[.val (.ref b), .val (.int (2 : Int32)), .val (.ref d), .val (.int (2 : Int32)), .val (.int (3 : Int32)), .val (.int (2 : Int32)), .val (.int c2)] (D d8_13) rfl ?_
  refine X490.iload (x := c2) (D d8_15) rfl ?_
  refine X490.sipush (x := (255 : Int32)) (D d8_17) rfl ?_
  refine X490.icmp_le 26 (D d8_20) ⟨by decide, by decide⟩ (fun hc => (hc hk).elim) (fun hn496 => ?_)
  refine X490.iload (x := (2 : Int32)) (D d8_23) rfl ?_
  exact X490.retI hret hlk (D d8_25) (by decide) (by decide) (rfl)
set_option maxRecDepth 65536 in
set_option maxHeartbeats 40000000 in
theorem ctNL3 (l : Launch) (Z : State) (a0 : Array Value) (hw : ∀ d ∈ tables_1, d.before a0 Z = true) (hEL : EW Z a0 consts_1) (z0 : Int32) (S0 : Sta Z Z.heap "java/lang/String" "COMPACT_STRINGS" "Z" (.int z0)) (hz0 : ¬ z0 = 0)  (h0 : Heap) (n0 : Nat)  :
    Ct l Z consts_1 [] (⟨"java/lang/StringUTF16", "newBytesLength", "(I)I"⟩ : MethodName) jdk_52_method_3_code 1 (some .int) ({ frames := 0, cells := 0, slots := 0, locals := 0 } : Room) #[(.int (3 : Int32))] h0 n0 [] (fun v _ => v = some (.int (6 : Int32))) := by
  have w : ∀ {d : Jvm.Cond} (i : Nat), tables_1[i]? = some d → d.before a0 Z = true := fun i q => hw _ (List.mem_of_getElem? q)
  refine Ct.enter (plainFor_of_name pn_2) hEL ?_
  intro p e sS m below meth c T0 hby hml0 hret hlk hnm hs0 X0
  have hml : c.maxLocals = 1 := hml0
  have D : ∀ {pc : Nat} {r : Except DecodeError (Instr × Nat)}, decode jdk_52_method_3_code pc = r → decode c.code pc = r := fun q => hb hby q
  rw [show entryFrame m #[(.int (3 : Int32))] 1 = mkF m 0 #[.val (.int (3 : Int32))] [] from by first | (simp [entryFrame, mkF, argsToLocals, Value.category]; done) | rfl]
  refine X0.iloadN (x := (3 : Int32)) (D d20_0) rfl ?_
  refine X0.if_ge 12 (D d20_1) ⟨by decide, by decide⟩ (fun hc497 => ?_) (fun hc497 => absurd hc497 (by decide))
  refine X0.iloadN (x := (3 : Int32)) (D d20_12) rfl ?_
  refine X0.ldcI (w 94 rfl) (D d20_13) ?_
  refine X0.icmp_lt 55 (D d20_15) ⟨by decide, by decide⟩ (fun hc498 => ?_) (fun hc498 => absurd hc498 (by decide))
  refine X0.iloadN (x := (3 : Int32)) (D d20_55) rfl ?_
  refine X0.iconst (x := (1 : Int32)) (D d20_56) rfl ?_
  refine X0.ishl (D d20_57) ?_
  show Goes p.tables e below _ (T0.setTop (mkF m 58 #[.val (.int (3 : Int32))] [(.int (6 : Int32))]))
  exact X0.retI hret hlk (D d20_58) (by decide) (by decide) (rfl)
set_option maxRecDepth 65536 in
set_option maxHeartbeats 40000000 in
theorem ctNF3 (l : Launch) (Z : State) (a0 : Array Value) (hw : ∀ d ∈ tables_1, d.before a0 Z = true) (hEL : EW Z a0 consts_1) (z0 : Int32) (S0 : Sta Z Z.heap "java/lang/String" "COMPACT_STRINGS" "Z" (.int z0)) (hz0 : ¬ z0 = 0)  (h0 : Heap) (n0 : Nat)  :
    CtF l Z consts_1 [] (⟨"java/lang/StringUTF16", "newBytesFor", "(I)[B"⟩ : MethodName) jdk_52_method_2_code 1 (some (.array .byte)) ({ frames := 1, cells := 1, slots := 6, locals := 12 } : Room) #[(.int (3 : Int32))] h0 n0 [] (fun v h F => ∃ (r : Addr) (kr : ClassId), v = some (.ref r) ∧ F = [r] ∧ Arv Z h r kr .byte (6 : Int32) [(.int (0 : Int32)), (.int (0 : Int32)), (.int (0 : Int32)), (.int (0 : Int32)), (.int (0 : Int32)), (.int (0 : Int32))] (.int (0 : Int32))) := by
  have w : ∀ {d : Jvm.Cond} (i : Nat), tables_1[i]? = some d → d.before a0 Z = true := fun i q => hw _ (List.mem_of_getElem? q)
  refine CtF.enter (plainFor_of_name pn_2) hEL ?_
  intro p e sS m below meth c T0 hby hml0 hret hlk hnm hs0 X0
  have hml : c.maxLocals = 1 := hml0
  have D : ∀ {pc : Nat} {r : Except DecodeError (Instr × Nat)}, decode jdk_52_method_2_code pc = r → decode c.code pc = r := fun q => hb hby q
  rw [show entryFrame m #[(.int (3 : Int32))] 1 = mkF m 0 #[.val (.int (3 : Int32))] [] from by first | (simp [entryFrame, mkF, argsToLocals, Value.category]; done) | rfl]
  refine X0.iloadN (x := (3 : Int32)) (D d19_0) rfl ?_
  refine X0.callsF [(.int (3 : Int32))] [] (ctNL3 l Z a0 hw hEL z0 S0 hz0 _ _).toF (w 91 rfl) (w 92 rfl) (w 42 rfl) (w 93 rfl) (by decide) (fun _ q => nomatch q) (by decide) 0 (by decide) (by decide) (by decide) (lenOf pd_2 rfl) rfl (leb rfl) (by rw [hml]; rfl) (D d19_1) ?_
  rintro T499 h500 _ _ X502 K503 hg504 ⟨rfl, rfl⟩
  show Goes p.tables e below _ (T499.setTop (mkF m 4 #[.val (.int (3 : Int32))] [(.int (6 : Int32))]))
  refine X502.newarr (w 23 rfl) (n := (6 : Int32)) (D d19_4) (by decide) 6 (by decide) (by decide) (by decide) (by decide) ?_
  intro T505 h506 b507 kb508 g509 X510 E511 A512
  have ge513 : sS.heap.size ≤ b507 := by rw [g509]; exact X502.kept.1
  have F514 : Arv Z h506 b507 kb508 .byte (6 : Int32) [(.int (0 : Int32)), (.int (0 : Int32)), (.int (0 : Int32)), (.int (0 : Int32)), (.int (0 : Int32)), (.int (0 : Int32))] (.int (0 : Int32)) := A512.pad (pad_rep [] (.int (0 : Int32)) 6)
  exact X510.retAF [b507] (fun x q => by simp only [List.mem_cons, List.not_mem_nil, or_false] at q; rcases q with rfl <;> exact ⟨by simp, by assumption⟩) hret rfl rfl hlk (D d19_6) (by decide) (by decide) (⟨_, _, rfl, rfl, F514⟩)
set_option maxRecDepth 65536 in
set_option maxHeartbeats 40000000 in
theorem ctPC3_0 (l : Launch) (Z : State) (a0 : Array Value) (hw : ∀ d ∈ tables_1, d.before a0 Z = true) (hEL : EW Z a0 consts_1) (z0 : Int32) (S0 : Sta Z Z.heap "java/lang/String" "COMPACT_STRINGS" "Z" (.int z0)) (hz0 : ¬ z0 = 0) (SA1 : Sta Z Z.heap "java/lang/StringUTF16" "$assertionsDisabled" "Z" (.int (1 : Int32))) (SH : Sta Z Z.heap "java/lang/StringUTF16" "HI_BYTE_SHIFT" "I" (.int (0 : Int32))) (SL : Sta Z Z.heap "java/lang/StringUTF16" "LO_BYTE_SHIFT" "I" (.int (8 : Int32))) (r : Addr) (kr : ClassId) (x y0 y1 y2 y3 y4 y5 : Int32) (h0 : Heap) (n0 : Nat) (A0 : Arv Z h0 r kr .byte (6 : Int32) [(.int y0), (.int y1), (.int y2), (.int y3), (.int y4), (.int y5)] (.int (0 : Int32))) :
    Ct l Z consts_1 [] (⟨"java/lang/StringUTF16", "putChar", "([BII)V"⟩ : MethodName) jdk_52_method_4_code 3 none ({ frames := 0, cells := 0, slots := 0, locals := 0 } : Room) #[(.ref r), (.int (0 : Int32)), (.int x)] h0 n0 [r] (fun v h => v = none ∧ Arv Z h r kr .byte (6 : Int32) [(.int (StrChars.lo8 x)), (.int (StrChars.hi8 x)), (.int y2), (.int y3), (.int y4), (.int y5)] (.int (0 : Int32))) := by
  have w : ∀ {d : Jvm.Cond} (i : Nat), tables_1[i]? = some d → d.before a0 Z = true := fun i q => hw _ (List.mem_of_getElem? q)
  refine Ct.enter (plainFor_of_name pn_2) hEL ?_
  intro p e sS m below meth c T0 hby hml0 hret hlk hnm hs0 X0
  have hml : c.maxLocals = 3 := hml0
  have D : ∀ {pc : Nat} {r : Except DecodeError (Instr × Nat)}, decode jdk_52_method_4_code pc = r → decode c.code pc = r := fun q => hb hby q
  rw [show entryFrame m #[(.ref r), (.int (0 : Int32)), (.int x)] 3 = mkF m 0 #[.val (.ref r), .val (.int (0 : Int32)), .val (.int x)] [] from by first | (simp [entryFrame, mkF, argsToLocals, Value.category]; done) | rfl]
  refine X0.gets (w 98 rfl) Via.refl (Sta.ext X0.old.2 SA1) (D d21_0) ?_
  intro T515 X516
  refine X516.if_ne 28 (D d21_3) ⟨by decide, by decide⟩ (fun hc517 => ?_) (fun hc517 => absurd hc517 (by decide))
  refine X516.iloadN (x := (0 : Int32)) (D d21_28) rfl ?_
  refine X516.iconst (x := (1 : Int32)) (D d21_29) rfl ?_
  refine X516.ishl (D d21_30) ?_
  show Goes p.tables e below _ (T515.setTop (mkF m 31 #[.val (.ref r), .val (.int (0 : Int32)), .val (.int x)] [(.int (0 : Int32))]))
  refine X516.istoreN #[.val (.ref r), .val (.int (0 : Int32)), .val (.int x)] (D d21_31) rfl ?_
  refine X516.aloadN (x := (.ref r)) (D d21_32) rfl rfl ?_
  refine X516.iloadN (x := (0 : Int32)) (D d21_33) rfl ?_
  refine X516.iinc #[.val (.ref r), .val (.int (1 : Int32)), .val (.int x)] (D d21_34) rfl rfl ?_
  refine X516.iloadN (x := x) (D d21_37) rfl ?_
  refine X516.gets (w 99 rfl) Via.refl (Sta.ext X516.old.2 SH) (D d21_38) ?_
  intro T518 X519
  refine X519.ishr (D d21_41) ?_
  refine X519.i2b (D d21_42) ?_
  show Goes p.tables e below _ (T518.setTop (mkF m 43 #[.val (.ref r), .val (.int (1 : Int32)), .val (.int x)] [(.int (StrChars.lo8 (x >>> ((0 : Int32) &&& 31)))), (.int (0 : Int32)), (.ref r)]))
  refine X519.bastore A0 ⟨by decide, by decide⟩ 0 rfl (leb rfl) (by simp) (D d21_43) ?_
  intro T520 h521 X522 W523 A524
  have F525 : Arv Z h521 r kr .byte (6 : Int32) [(.int (StrChars.lo8 x)), (.int y1), (.int y2), (.int y3), (.int y4), (.int y5)] (.int (0 : Int32)) := by rw [nar_sh0 x] at A524; exact A524
  refine X522.aloadN (x := (.ref r)) (D d21_44) rfl rfl ?_
  refine X522.iloadN (x := (1 : Int32)) (D d21_45) rfl ?_
  refine X522.iloadN (x := x) (D d21_46) rfl ?_
  refine X522.gets (w 100 rfl) Via.refl (Sta.ext X522.old.2 SL) (D d21_47) ?_
  intro T526 X527
  refine X527.ishr (D d21_50) ?_
  refine X527.i2b (D d21_51) ?_
  show Goes p.tables e below _ (T526.setTop (mkF m 52 #[.val (.ref r), .val (.int (1 : Int32)), .val (.int x)] [(.int (StrChars.lo8 (x >>> ((8 : Int32) &&& 31)))), (.int (1 : Int32)), (.ref r)]))
  refine X527.bastore F525 ⟨by decide, by decide⟩ 1 rfl (leb rfl) (by simp) (D d21_52) ?_
  intro T528 h529 X530 W531 A532
  have F533 : Arv Z h529 r kr .byte (6 : Int32) [(.int (StrChars.lo8 x)), (.int (StrChars.hi8 x)), (.int y2), (.int y3), (.int y4), (.int y5)] (.int (0 : Int32)) := by rw [nar_lo8 (x >>> ((8 : Int32) &&& 31))] at A532; exact A532
  exact X530.retn hret hlk (D d21_53) (by decide) (by decide) (⟨rfl, F533⟩)
set_option maxRecDepth 65536 in
set_option maxHeartbeats 40000000 in
theorem ctPC3_1 (l : Launch) (Z : State) (a0 : Array Value) (hw : ∀ d ∈ tables_1, d.before a0 Z = true) (hEL : EW Z a0 consts_1) (z0 : Int32) (S0 : Sta Z Z.heap "java/lang/String" "COMPACT_STRINGS" "Z" (.int z0)) (hz0 : ¬ z0 = 0) (SA1 : Sta Z Z.heap "java/lang/StringUTF16" "$assertionsDisabled" "Z" (.int (1 : Int32))) (SH : Sta Z Z.heap "java/lang/StringUTF16" "HI_BYTE_SHIFT" "I" (.int (0 : Int32))) (SL : Sta Z Z.heap "java/lang/StringUTF16" "LO_BYTE_SHIFT" "I" (.int (8 : Int32))) (r : Addr) (kr : ClassId) (x y0 y1 y2 y3 y4 y5 : Int32) (h0 : Heap) (n0 : Nat) (A0 : Arv Z h0 r kr .byte (6 : Int32) [(.int y0), (.int y1), (.int y2), (.int y3), (.int y4), (.int y5)] (.int (0 : Int32))) :
    Ct l Z consts_1 [] (⟨"java/lang/StringUTF16", "putChar", "([BII)V"⟩ : MethodName) jdk_52_method_4_code 3 none ({ frames := 0, cells := 0, slots := 0, locals := 0 } : Room) #[(.ref r), (.int (1 : Int32)), (.int x)] h0 n0 [r] (fun v h => v = none ∧ Arv Z h r kr .byte (6 : Int32) [(.int y0), (.int y1), (.int (StrChars.lo8 x)), (.int (StrChars.hi8 x)), (.int y4), (.int y5)] (.int (0 : Int32))) := by
  have w : ∀ {d : Jvm.Cond} (i : Nat), tables_1[i]? = some d → d.before a0 Z = true := fun i q => hw _ (List.mem_of_getElem? q)
  refine Ct.enter (plainFor_of_name pn_2) hEL ?_
  intro p e sS m below meth c T0 hby hml0 hret hlk hnm hs0 X0
  have hml : c.maxLocals = 3 := hml0
  have D : ∀ {pc : Nat} {r : Except DecodeError (Instr × Nat)}, decode jdk_52_method_4_code pc = r → decode c.code pc = r := fun q => hb hby q
  rw [show entryFrame m #[(.ref r), (.int (1 : Int32)), (.int x)] 3 = mkF m 0 #[.val (.ref r), .val (.int (1 : Int32)), .val (.int x)] [] from by first | (simp [entryFrame, mkF, argsToLocals, Value.category]; done) | rfl]
  refine X0.gets (w 98 rfl) Via.refl (Sta.ext X0.old.2 SA1) (D d21_0) ?_
  intro T534 X535
  refine X535.if_ne 28 (D d21_3) ⟨by decide, by decide⟩ (fun hc536 => ?_) (fun hc536 => absurd hc536 (by decide))
  refine X535.iloadN (x := (1 : Int32)) (D d21_28) rfl ?_
  refine X535.iconst (x := (1 : Int32)) (D d21_29) rfl ?_
  refine X535.ishl (D d21_30) ?_
  show Goes p.tables e below _ (T534.setTop (mkF m 31 #[.val (.ref r), .val (.int (1 : Int32)), .val (.int x)] [(.int (2 : Int32))]))
  refine X535.istoreN #[.val (.ref r), .val (.int (2 : Int32)), .val (.int x)] (D d21_31) rfl ?_
  refine X535.aloadN (x := (.ref r)) (D d21_32) rfl rfl ?_
  refine X535.iloadN (x := (2 : Int32)) (D d21_33) rfl ?_
  refine X535.iinc #[.val (.ref r), .val (.int (3 : Int32)), .val (.int x)] (D d21_34) rfl rfl ?_
  refine X535.iloadN (x := x) (D d21_37) rfl ?_
  refine X535.gets (w 99 rfl) Via.refl (Sta.ext X535.old.2 SH) (D d21_38) ?_
  intro T537 X538
  refine X538.ishr (D d21_41) ?_
  refine X538.i2b (D d21_42) ?_
  show Goes p.tables e below _ (T537.setTop (mkF m 43 #[.val (.ref r), .val (.int (3 : Int32)), .val (.int x)] [(.int (StrChars.lo8 (x >>> ((0 : Int32) &&& 31)))), (.int (2 : Int32)), (.ref r)]))
  refine X538.bastore A0 ⟨by decide, by decide⟩ 2 rfl (leb rfl) (by simp) (D d21_43) ?_
  intro T539 h540 X541 W542 A543
  have F544 : Arv Z h540 r kr .byte (6 : Int32) [(.int y0), (.int y1), (.int (StrChars.lo8 x)), (.int y3), (.int y4), (.int y5)] (.int (0 : Int32)) := by rw [nar_sh0 x] at A543; exact A543
  refine X541.aloadN (x := (.ref r)) (D d21_44) rfl rfl ?_
  refine X541.iloadN (x := (3 : Int32)) (D d21_45) rfl ?_
  refine X541.iloadN (x := x) (D d21_46) rfl ?_
  refine X541.gets (w 100 rfl) Via.refl (Sta.ext X541.old.2 SL) (D d21_47) ?_
  intro T545 X546
  refine X546.ishr (D d21_50) ?_
  refine X546.i2b (D d21_51) ?_
  show Goes p.tables e below _ (T545.setTop (mkF m 52 #[.val (.ref r), .val (.int (3 : Int32)), .val (.int x)] [(.int (StrChars.lo8 (x >>> ((8 : Int32) &&& 31)))), (.int (3 : Int32)), (.ref r)]))
  refine X546.bastore F544 ⟨by decide, by decide⟩ 3 rfl (leb rfl) (by simp) (D d21_52) ?_
  intro T547 h548 X549 W550 A551
  have F552 : Arv Z h548 r kr .byte (6 : Int32) [(.int y0), (.int y1), (.int (StrChars.lo8 x)), (.int (StrChars.hi8 x)), (.int y4), (.int y5)] (.int (0 : Int32)) := by rw [nar_lo8 (x >>> ((8 : Int32) &&& 31))] at A551; exact A551
  exact X549.retn hret hlk (D d21_53) (by decide) (by decide) (⟨rfl, F552⟩)
set_option maxRecDepth 65536 in
set_option maxHeartbeats 40000000 in
theorem ctPC3_2 (l : Launch) (Z : State) (a0 : Array Value) (hw : ∀ d ∈ tables_1, d.before a0 Z = true) (hEL : EW Z a0 consts_1) (z0 : Int32) (S0 : Sta Z Z.heap "java/lang/String" "COMPACT_STRINGS" "Z" (.int z0)) (hz0 : ¬ z0 = 0) (SA1 : Sta Z Z.heap "java/lang/StringUTF16" "$assertionsDisabled" "Z" (.int (1 : Int32))) (SH : Sta Z Z.heap "java/lang/StringUTF16" "HI_BYTE_SHIFT" "I" (.int (0 : Int32))) (SL : Sta Z Z.heap "java/lang/StringUTF16" "LO_BYTE_SHIFT" "I" (.int (8 : Int32))) (r : Addr) (kr : ClassId) (x y0 y1 y2 y3 y4 y5 : Int32) (h0 : Heap) (n0 : Nat) (A0 : Arv Z h0 r kr .byte (6 : Int32) [(.int y0), (.int y1), (.int y2), (.int y3), (.int y4), (.int y5)] (.int (0 : Int32))) :
    Ct l Z consts_1 [] (⟨"java/lang/StringUTF16", "putChar", "([BII)V"⟩ : MethodName) jdk_52_method_4_code 3 none ({ frames := 0, cells := 0, slots := 0, locals := 0 } : Room) #[(.ref r), (.int (2 : Int32)), (.int x)] h0 n0 [r] (fun v h => v = none ∧ Arv Z h r kr .byte (6 : Int32) [(.int y0), (.int y1), (.int y2), (.int y3), (.int (StrChars.lo8 x)), (.int (StrChars.hi8 x))] (.int (0 : Int32))) := by
  have w : ∀ {d : Jvm.Cond} (i : Nat), tables_1[i]? = some d → d.before a0 Z = true := fun i q => hw _ (List.mem_of_getElem? q)
  refine Ct.enter (plainFor_of_name pn_2) hEL ?_
  intro p e sS m below meth c T0 hby hml0 hret hlk hnm hs0 X0
  have hml : c.maxLocals = 3 := hml0
  have D : ∀ {pc : Nat} {r : Except DecodeError (Instr × Nat)}, decode jdk_52_method_4_code pc = r → decode c.code pc = r := fun q => hb hby q
  rw [show entryFrame m #[(.ref r), (.int (2 : Int32)), (.int x)] 3 = mkF m 0 #[.val (.ref r), .val (.int (2 : Int32)), .val (.int x)] [] from by first | (simp [entryFrame, mkF, argsToLocals, Value.category]; done) | rfl]
  refine X0.gets (w 98 rfl) Via.refl (Sta.ext X0.old.2 SA1) (D d21_0) ?_
  intro T553 X554
  refine X554.if_ne 28 (D d21_3) ⟨by decide, by decide⟩ (fun hc555 => ?_) (fun hc555 => absurd hc555 (by decide))
  refine X554.iloadN (x := (2 : Int32)) (D d21_28) rfl ?_
  refine X554.iconst (x := (1 : Int32)) (D d21_29) rfl ?_
  refine X554.ishl (D d21_30) ?_
  show Goes p.tables e below _ (T553.setTop (mkF m 31 #[.val (.ref r), .val (.int (2 : Int32)), .val (.int x)] [(.int (4 : Int32))]))
  refine X554.istoreN #[.val (.ref r), .val (.int (4 : Int32)), .val (.int x)] (D d21_31) rfl ?_
  refine X554.aloadN (x := (.ref r)) (D d21_32) rfl rfl ?_
  refine X554.iloadN (x := (4 : Int32)) (D d21_33) rfl ?_
  refine X554.iinc #[.val (.ref r), .val (.int (5 : Int32)), .val (.int x)] (D d21_34) rfl rfl ?_
  refine X554.iloadN (x := x) (D d21_37) rfl ?_
  refine X554.gets (w 99 rfl) Via.refl (Sta.ext X554.old.2 SH) (D d21_38) ?_
  intro T556 X557
  refine X557.ishr (D d21_41) ?_
  refine X557.i2b (D d21_42) ?_
  show Goes p.tables e below _ (T556.setTop (mkF m 43 #[.val (.ref r), .val (.int (5 : Int32)), .val (.int x)] [(.int (StrChars.lo8 (x >>> ((0 : Int32) &&& 31)))), (.int (4 : Int32)), (.ref r)]))
  refine X557.bastore A0 ⟨by decide, by decide⟩ 4 rfl (leb rfl) (by simp) (D d21_43) ?_
  intro T558 h559 X560 W561 A562
  have F563 : Arv Z h559 r kr .byte (6 : Int32) [(.int y0), (.int y1), (.int y2), (.int y3), (.int (StrChars.lo8 x)), (.int y5)] (.int (0 : Int32)) := by rw [nar_sh0 x] at A562; exact A562
  refine X560.aloadN (x := (.ref r)) (D d21_44) rfl rfl ?_
  refine X560.iloadN (x := (5 : Int32)) (D d21_45) rfl ?_
  refine X560.iloadN (x := x) (D d21_46) rfl ?_
  refine X560.gets (w 100 rfl) Via.refl (Sta.ext X560.old.2 SL) (D d21_47) ?_
  intro T564 X565
  refine X565.ishr (D d21_50) ?_
  refine X565.i2b (D d21_51) ?_
  show Goes p.tables e below _ (T564.setTop (mkF m 52 #[.val (.ref r), .val (.int (5 : Int32)), .val (.int x)] [(.int (StrChars.lo8 (x >>> ((8 : Int32) &&& 31)))), (.int (5 : Int32)), (.ref r)]))
  refine X565.bastore F563 ⟨by decide, by decide⟩ 5 rfl (leb rfl) (by simp) (D d21_52) ?_
  intro T566 h567 X568 W569 A570
  have F571 : Arv Z h567 r kr .byte (6 : Int32) [(.int y0), (.int y1), (.int y2), (.int y3), (.int (StrChars.lo8 x)), (.int (StrChars.hi8 x))] (.int (0 : Int32)) := by rw [nar_lo8 (x >>> ((8 : Int32) &&& 31))] at A570; exact A570
  exact X568.retn hret hlk (D d21_53) (by decide) (by decide) (⟨rfl, F571⟩)
set_option maxRecDepth 65536 in
set_option maxHeartbeats 40000000 in
theorem ctTB3 (l : Launch) (Z : State) (a0 : Array Value) (hw : ∀ d ∈ tables_1, d.before a0 Z = true) (hEL : EW Z a0 consts_1) (z0 : Int32) (S0 : Sta Z Z.heap "java/lang/String" "COMPACT_STRINGS" "Z" (.int z0)) (hz0 : ¬ z0 = 0) (SA1 : Sta Z Z.heap "java/lang/StringUTF16" "$assertionsDisabled" "Z" (.int (1 : Int32))) (SH : Sta Z Z.heap "java/lang/StringUTF16" "HI_BYTE_SHIFT" "I" (.int (0 : Int32))) (SL : Sta Z Z.heap "java/lang/StringUTF16" "LO_BYTE_SHIFT" "I" (.int (8 : Int32))) (b : Addr) (kb : ClassId) (dv : Value) (c0 c1 c2 : Int32) (h0 : Heap) (n0 : Nat) (A0 : Arv Z h0 b kb .char (3 : Int32) [(.int c0), (.int c1), (.int c2)] dv) :
    Ct l Z consts_1 [] (⟨"java/lang/StringUTF16", "toBytes", "([CII)[B"⟩ : MethodName) jdk_52_method_14_code 5 (some (.array .byte)) ({ frames := 2, cells := 1, slots := 6, locals := 24 } : Room) #[(.ref b), (.int (0 : Int32)), (.int (3 : Int32))] h0 n0 [] (fun v h => ∃ (r : Addr) (kr : ClassId), v = some (.ref r) ∧ Arv Z h r kr .byte (6 : Int32) [(.int (StrChars.lo8 c0)), (.int (StrChars.hi8 c0)), (.int (StrChars.lo8 c1)), (.int (StrChars.hi8 c1)), (.int (StrChars.lo8 c2)), (.int (StrChars.hi8 c2))] (.int (0 : Int32))) := by
  have w : ∀ {d : Jvm.Cond} (i : Nat), tables_1[i]? = some d → d.before a0 Z = true := fun i q => hw _ (List.mem_of_getElem? q)
  refine Ct.enter (plainFor_of_name pn_2) hEL ?_
  intro p e sS m below meth c T0 hby hml0 hret hlk hnm hs0 X0
  have hml : c.maxLocals = 5 := hml0
  have D : ∀ {pc : Nat} {r : Except DecodeError (Instr × Nat)}, decode jdk_52_method_14_code pc = r → decode c.code pc = r := fun q => hb hby q
  rw [show entryFrame m #[(.ref b), (.int (0 : Int32)), (.int (3 : Int32))] 5 = mkF m 0 #[.val (.ref b), .val (.int (0 : Int32)), .val (.int (3 : Int32)), .unset, .unset] [] from by first | (simp [entryFrame, mkF, argsToLocals, Value.category]; done) | rfl]
  refine X0.iloadN (x := (3 : Int32)) (D d18_0) rfl ?_
  refine X0.callsF [(.int (3 : Int32))] [] (ctNF3 l Z a0 hw hEL z0 S0 hz0 _ _) (w 88 rfl) (w 89 rfl) (w 42 rfl) (w 90 rfl) (by decide) (fun _ q => nomatch q) (by decide) 0 (by decide) (by decide) (by decide) (lenOf pd_3 rfl) rfl (leb rfl) (by rw [hml]; rfl) (D d18_1) ?_
  rintro T572 h573 _ _ X575 K576 hg577 ⟨r, kr, rfl, rfl, A1⟩
  have F578 := A0.keep K576 nin0
  have fg579 := hg577 r (by simp)
  have lt580 : b < r := Nat.lt_of_lt_of_le A0.lt fg579
  show Goes p.tables e below _ (T572.setTop (mkF m 4 #[.val (.ref b), .val (.int (0 : Int32)), .val (.int (3 : Int32)), .unset, .unset] [(.ref r)]))
  refine X575.astoreN #[.val (.ref b), .val (.int (0 : Int32)), .val (.int (3 : Int32)), .val (.ref r), .unset] (D d18_4) rfl rfl ?_
  refine X575.iconst (x := (0 : Int32)) (D d18_5) rfl ?_
  refine X575.istore #[.val (.ref b), .val (.int (0 : Int32)), .val (.int (3 : Int32)), .val (.ref r), .val (.int (0 : Int32))] (D d18_6) rfl ?_
  refine X575.iload (x := (0 : Int32)) (D d18_8) rfl ?_
  refine X575.iloadN (x := (3 : Int32)) (D d18_10) rfl ?_
  refine X575.icmp_ge 32 (D d18_11) ⟨by decide, by decide⟩ (fun hc581 => absurd hc581 (by decide)) (fun hc581 => ?_)
  refine X575.aloadN (x := (.ref r)) (D d18_14) rfl rfl ?_
  refine X575.iload (x := (0 : Int32)) (D d18_15) rfl ?_
  refine X575.aloadN (x := (.ref b)) (D d18_17) rfl rfl ?_
  refine X575.iloadN (x := (0 : Int32)) (D d18_18) rfl ?_
  show Goes p.tables e below _ (T572.setTop (mkF m 19 #[.val (.ref b), .val (.int (0 : Int32)), .val (.int (3 : Int32)), .val (.ref r), .val (.int (0 : Int32))] [(.int (0 : Int32)), (.ref b), (.int (0 : Int32)), (.ref r)]))
  refine X575.caload (v := (.int c0)) F578 ⟨by decide, by decide⟩ rfl (D d18_19) ?_
  refine X575.calls [(.ref r), (.int (0 : Int32)), (.int c0)] [] (ctPC3_0 l Z a0 hw hEL z0 S0 hz0 SA1 SH SL r kr c0 (0 : Int32) (0 : Int32) (0 : Int32) (0 : Int32) (0 : Int32) (0 : Int32) _ _ A1) (w 95 rfl) (w 96 rfl) (w 42 rfl) (w 97 rfl) (by decide) (by simp) (by decide) 0 (by decide) (by decide) (by decide) (lenOf pd_4 rfl) rfl (leb rfl) (by rw [hml]; rfl) (D d18_20) ?_
  rintro T583 h584 _ X586 K587 ⟨rfl, G582⟩
  have F588 := F578.keep K587 (ninS (Nat.ne_of_lt lt580) nin0)
  show Goes p.tables e below _ (T583.setTop (mkF m 23 #[.val (.ref b), .val (.int (0 : Int32)), .val (.int (3 : Int32)), .val (.ref r), .val (.int (0 : Int32))] []))
  refine X586.iinc #[.val (.ref b), .val (.int (1 : Int32)), .val (.int (3 : Int32)), .val (.ref r), .val (.int (0 : Int32))] (D d18_23) rfl rfl ?_
  refine X586.iinc #[.val (.ref b), .val (.int (1 : Int32)), .val (.int (3 : Int32)), .val (.ref r), .val (.int (1 : Int32))] (D d18_26) rfl rfl ?_
  refine X586.goto 8 (D d18_29) ⟨by decide, by decide⟩ ?_
  refine X586.iload (x := (1 : Int32)) (D d18_8) rfl ?_
  refine X586.iloadN (x := (3 : Int32)) (D d18_10) rfl ?_
  refine X586.icmp_ge 32 (D d18_11) ⟨by decide, by decide⟩ (fun hc589 => absurd hc589 (by decide)) (fun hc589 => ?_)
  refine X586.aloadN (x := (.ref r)) (D d18_14) rfl rfl ?_
  refine X586.iload (x := (1 : Int32)) (D d18_15) rfl ?_
  refine X586.aloadN (x := (.ref b)) (D d18_17) rfl rfl ?_
  refine X586.iloadN (x := (1 : Int32)) (D d18_18) rfl ?_
  show Goes p.tables e below _ (T583.setTop (mkF m 19 #[.val (.ref b), .val (.int (1 : Int32)), .val (.int (3 : Int32)), .val (.ref r), .val (.int (1 : Int32))] [(.int (1 : Int32)), (.ref b), (.int (1 : Int32)), (.ref r)]))
  refine X586.caload (v := (.int c1)) F588 ⟨by decide, by decide⟩ rfl (D d18_19) ?_
  refine X586.calls [(.ref r), (.int (1 : Int32)), (.int c1)] [] (ctPC3_1 l Z a0 hw hEL z0 S0 hz0 SA1 SH SL r kr c1 (StrChars.lo8 c0) (StrChars.hi8 c0) (0 : Int32) (0 : Int32) (0 : Int32) (0 : Int32) _ _ G582) (w 95 rfl) (w 96 rfl) (w 42 rfl) (w 97 rfl) (by decide) (by simp) (by decide) 0 (by decide) (by decide) (by decide) (lenOf pd_4 rfl) rfl (leb rfl) (by rw [hml]; rfl) (D d18_20) ?_
  rintro T591 h592 _ X594 K595 ⟨rfl, G590⟩
  have F596 := F588.keep K595 (ninS (Nat.ne_of_lt lt580) nin0)
  show Goes p.tables e below _ (T591.setTop (mkF m 23 #[.val (.ref b), .val (.int (1 : Int32)), .val (.int (3 : Int32)), .val (.ref r), .val (.int (1 : Int32))] []))
  refine X594.iinc #[.val (.ref b), .val (.int (2 : Int32)), .val (.int (3 : Int32)), .val (.ref r), .val (.int (1 : Int32))] (D d18_23) rfl rfl ?_
  refine X594.iinc #[.val (.ref b), .val (.int (2 : Int32)), .val (.int (3 : Int32)), .val (.ref r), .val (.int (2 : Int32))] (D d18_26) rfl rfl ?_
  refine X594.goto 8 (D d18_29) ⟨by decide, by decide⟩ ?_
  refine X594.iload (x := (2 : Int32)) (D d18_8) rfl ?_
  refine X594.iloadN (x := (3 : Int32)) (D d18_10) rfl ?_
  refine X594.icmp_ge 32 (D d18_11) ⟨by decide, by decide⟩ (fun hc597 => absurd hc597 (by decide)) (fun hc597 => ?_)
  refine X594.aloadN (x := (.ref r)) (D d18_14) rfl rfl ?_
  refine X594.iload (x := (2 : Int32)) (D d18_15) rfl ?_
  refine X594.aloadN (x := (.ref b)) (D d18_17) rfl rfl ?_
  refine X594.iloadN (x := (2 : Int32)) (D d18_18) rfl ?_
  show Goes p.tables e below _ (T591.setTop (mkF m 19 #[.val (.ref b), .val (.int (2 : Int32)), .val (.int (3 : Int32)), .val (.ref r), .val (.int (2 : Int32))] [(.int (2 : Int32)), (.ref b), (.int (2 : Int32)), (.ref r)]))
  refine X594.caload (v := (.int c2)) F596 ⟨by decide, by decide⟩ rfl (D d18_19) ?_
  refine X594.calls [(.ref r), (.int (2 : Int32)), (.int c2)] [] (ctPC3_2 l Z a0 hw hEL z0 S0 hz0 SA1 SH SL r kr c2 (StrChars.lo8 c0) (StrChars.hi8 c0) (StrChars.lo8 c1) (StrChars.hi8 c1) (0 : Int32) (0 : Int32) _ _ G590) (w 95 rfl) (w 96 rfl) (w 42 rfl) (w 97 rfl) (by decide) (by simp) (by decide) 0 (by decide) (by decide) (by decide) (lenOf pd_4 rfl) rfl (leb rfl) (by rw [hml]; rfl) (D d18_20) ?_
  rintro T599 h600 _ X602 K603 ⟨rfl, G598⟩
  have F604 := F596.keep K603 (ninS (Nat.ne_of_lt lt580) nin0)
  show Goes p.tables e below _ (T599.setTop (mkF m 23 #[.val (.ref b), .val (.int (2 : Int32)), .val (.int (3 : Int32)), .val (.ref r), .val (.int (2 : Int32))] []))
  refine X602.iinc #[.val (.ref b), .val (.int (3 : Int32)), .val (.int (3 : Int32)), .val (.ref r), .val (.int (2 : Int32))] (D d18_23) rfl rfl ?_
  refine X602.iinc #[.val (.ref b), .val (.int (3 : Int32)), .val (.int (3 : Int32)), .val (.ref r), .val (.int (3 : Int32))] (D d18_26) rfl rfl ?_
  refine X602.goto 8 (D d18_29) ⟨by decide, by decide⟩ ?_
  refine X602.iload (x := (3 : Int32)) (D d18_8) rfl ?_
  refine X602.iloadN (x := (3 : Int32)) (D d18_10) rfl ?_
  refine X602.icmp_ge 32 (D d18_11) ⟨by decide, by decide⟩ (fun hc605 => ?_) (fun hc605 => absurd hc605 (by decide))
  refine X602.aloadN (x := (.ref r)) (D d18_32) rfl rfl ?_
  exact X602.retA hret rfl rfl hlk (D d18_33) (by decide) (by decide) (⟨r, kr, rfl, G598⟩)
set_option maxRecDepth 65536 in
set_option maxHeartbeats 40000000 in
theorem ctGC3_0 (l : Launch) (Z : State) (a0 : Array Value) (hw : ∀ d ∈ tables_1, d.before a0 Z = true) (hEL : EW Z a0 consts_1) (z0 : Int32) (S0 : Sta Z Z.heap "java/lang/String" "COMPACT_STRINGS" "Z" (.int z0)) (hz0 : ¬ z0 = 0) (SA1 : Sta Z Z.heap "java/lang/StringUTF16" "$assertionsDisabled" "Z" (.int (1 : Int32))) (SH : Sta Z Z.heap "java/lang/StringUTF16" "HI_BYTE_SHIFT" "I" (.int (0 : Int32))) (SL : Sta Z Z.heap "java/lang/StringUTF16" "LO_BYTE_SHIFT" "I" (.int (8 : Int32))) (r : Addr) (kr : ClassId) (c0 c1 c2 : Int32) (h0 : Heap) (n0 : Nat) (A0 : Arv Z h0 r kr .byte (6 : Int32) [(.int (StrChars.lo8 c0)), (.int (StrChars.hi8 c0)), (.int (StrChars.lo8 c1)), (.int (StrChars.hi8 c1)), (.int (StrChars.lo8 c2)), (.int (StrChars.hi8 c2))] (.int (0 : Int32))) (r0 : Rc c0) :
    Ct l Z consts_1 [] (⟨"java/lang/StringUTF16", "getChar", "([BI)C"⟩ : MethodName) jdk_52_method_5_code 2 (some .char) ({ frames := 0, cells := 0, slots := 0, locals := 0 } : Room) #[(.ref r), (.int (0 : Int32))] h0 n0 [] (fun v _ => v = some (.int c0)) := by
  have w : ∀ {d : Jvm.Cond} (i : Nat), tables_1[i]? = some d → d.before a0 Z = true := fun i q => hw _ (List.mem_of_getElem? q)
  refine Ct.enter (plainFor_of_name pn_2) hEL ?_
  intro p e sS m below meth c T0 hby hml0 hret hlk hnm hs0 X0
  have hml : c.maxLocals = 2 := hml0
  have D : ∀ {pc : Nat} {r : Except DecodeError (Instr × Nat)}, decode jdk_52_method_5_code pc = r → decode c.code pc = r := fun q => hb hby q
  rw [show entryFrame m #[(.ref r), (.int (0 : Int32))] 2 = mkF m 0 #[.val (.ref r), .val (.int (0 : Int32))] [] from by first | (simp [entryFrame, mkF, argsToLocals, Value.category]; done) | rfl]
  refine X0.gets (w 98 rfl) Via.refl (Sta.ext X0.old.2 SA1) (D d22_0) ?_
  intro T606 X607
  refine X607.if_ne 28 (D d22_3) ⟨by decide, by decide⟩ (fun hc608 => ?_) (fun hc608 => absurd hc608 (by decide))
  refine X607.iloadN (x := (0 : Int32)) (D d22_28) rfl ?_
  refine X607.iconst (x := (1 : Int32)) (D d22_29) rfl ?_
  refine X607.ishl (D d22_30) ?_
  show Goes p.tables e below _ (T606.setTop (mkF m 31 #[.val (.ref r), .val (.int (0 : Int32))] [(.int (0 : Int32))]))
  refine X607.istoreN #[.val (.ref r), .val (.int (0 : Int32))] (D d22_31) rfl ?_
  refine X607.aloadN (x := (.ref r)) (D d22_32) rfl rfl ?_
  refine X607.iloadN (x := (0 : Int32)) (D d22_33) rfl ?_
  refine X607.iinc #[.val (.ref r), .val (.int (1 : Int32))] (D d22_34) rfl rfl ?_
  show Goes p.tables e below _ (T606.setTop (mkF m 37 #[.val (.ref r), .val (.int (1 : Int32))] [(.int (0 : Int32)), (.ref r)]))
  refine X607.baload (v := (.int (StrChars.lo8 c0))) A0 ⟨by decide, by decide⟩ rfl (D d22_37) ?_
  refine X607.sipush (x := (255 : Int32)) (D d22_38) rfl ?_
  refine X607.iand (D d22_41) ?_
  refine X607.gets (w 99 rfl) Via.refl (Sta.ext X607.old.2 SH) (D d22_42) ?_
  intro T609 X610
  refine X610.ishl (D d22_45) ?_
  refine X610.aloadN (x := (.ref r)) (D d22_46) rfl rfl ?_
  refine X610.iloadN (x := (1 : Int32)) (D d22_47) rfl ?_
  show Goes p.tables e below _ (T609.setTop (mkF m 48 #[.val (.ref r), .val (.int (1 : Int32))] [(.int (1 : Int32)), (.ref r), (.int (((StrChars.lo8 c0) &&& (255 : Int32)) <<< ((0 : Int32) &&& 31)))]))
  refine X610.baload (v := (.int (StrChars.hi8 c0))) A0 ⟨by decide, by decide⟩ rfl (D d22_48) ?_
  refine X610.sipush (x := (255 : Int32)) (D d22_49) rfl ?_
  refine X610.iand (D d22_52) ?_
  refine X610.gets (w 100 rfl) Via.refl (Sta.ext X610.old.2 SL) (D d22_53) ?_
  intro T611 X612
  refine X612.ishl (D d22_56) ?_
  refine X612.ior (D d22_57) ?_
  refine X612.i2c (D d22_58) ?_
  exact X612.reti hret (by simp) hlk (D d22_59) (by decide) (by decide) (ret_pair r0)
set_option maxRecDepth 65536 in
set_option maxHeartbeats 40000000 in
theorem ctGC3_1 (l : Launch) (Z : State) (a0 : Array Value) (hw : ∀ d ∈ tables_1, d.before a0 Z = true) (hEL : EW Z a0 consts_1) (z0 : Int32) (S0 : Sta Z Z.heap "java/lang/String" "COMPACT_STRINGS" "Z" (.int z0)) (hz0 : ¬ z0 = 0) (SA1 : Sta Z Z.heap "java/lang/StringUTF16" "$assertionsDisabled" "Z" (.int (1 : Int32))) (SH : Sta Z Z.heap "java/lang/StringUTF16" "HI_BYTE_SHIFT" "I" (.int (0 : Int32))) (SL : Sta Z Z.heap "java/lang/StringUTF16" "LO_BYTE_SHIFT" "I" (.int (8 : Int32))) (r : Addr) (kr : ClassId) (c0 c1 c2 : Int32) (h0 : Heap) (n0 : Nat) (A0 : Arv Z h0 r kr .byte (6 : Int32) [(.int (StrChars.lo8 c0)), (.int (StrChars.hi8 c0)), (.int (StrChars.lo8 c1)), (.int (StrChars.hi8 c1)), (.int (StrChars.lo8 c2)), (.int (StrChars.hi8 c2))] (.int (0 : Int32))) (r1 : Rc c1) :
    Ct l Z consts_1 [] (⟨"java/lang/StringUTF16", "getChar", "([BI)C"⟩ : MethodName) jdk_52_method_5_code 2 (some .char) ({ frames := 0, cells := 0, slots := 0, locals := 0 } : Room) #[(.ref r), (.int (1 : Int32))] h0 n0 [] (fun v _ => v = some (.int c1)) := by
  have w : ∀ {d : Jvm.Cond} (i : Nat), tables_1[i]? = some d → d.before a0 Z = true := fun i q => hw _ (List.mem_of_getElem? q)
  refine Ct.enter (plainFor_of_name pn_2) hEL ?_
  intro p e sS m below meth c T0 hby hml0 hret hlk hnm hs0 X0
  have hml : c.maxLocals = 2 := hml0
  have D : ∀ {pc : Nat} {r : Except DecodeError (Instr × Nat)}, decode jdk_52_method_5_code pc = r → decode c.code pc = r := fun q => hb hby q
  rw [show entryFrame m #[(.ref r), (.int (1 : Int32))] 2 = mkF m 0 #[.val (.ref r), .val (.int (1 : Int32))] [] from by first | (simp [entryFrame, mkF, argsToLocals, Value.category]; done) | rfl]
  refine X0.gets (w 98 rfl) Via.refl (Sta.ext X0.old.2 SA1) (D d22_0) ?_
  intro T613 X614
  refine X614.if_ne 28 (D d22_3) ⟨by decide, by decide⟩ (fun hc615 => ?_) (fun hc615 => absurd hc615 (by decide))
  refine X614.iloadN (x := (1 : Int32)) (D d22_28) rfl ?_
  refine X614.iconst (x := (1 : Int32)) (D d22_29) rfl ?_
  refine X614.ishl (D d22_30) ?_
  show Goes p.tables e below _ (T613.setTop (mkF m 31 #[.val (.ref r), .val (.int (1 : Int32))] [(.int (2 : Int32))]))
  refine X614.istoreN #[.val (.ref r), .val (.int (2 : Int32))] (D d22_31) rfl ?_
  refine X614.aloadN (x := (.ref r)) (D d22_32) rfl rfl ?_
  refine X614.iloadN (x := (2 : Int32)) (D d22_33) rfl ?_
  refine X614.iinc #[.val (.ref r), .val (.int (3 : Int32))] (D d22_34) rfl rfl ?_
  show Goes p.tables e below _ (T613.setTop (mkF m 37 #[.val (.ref r), .val (.int (3 : Int32))] [(.int (2 : Int32)), (.ref r)]))
  refine X614.baload (v := (.int (StrChars.lo8 c1))) A0 ⟨by decide, by decide⟩ rfl (D d22_37) ?_
  refine X614.sipush (x := (255 : Int32)) (D d22_38) rfl ?_
  refine X614.iand (D d22_41) ?_
  refine X614.gets (w 99 rfl) Via.refl (Sta.ext X614.old.2 SH) (D d22_42) ?_
  intro T616 X617
  refine X617.ishl (D d22_45) ?_
  refine X617.aloadN (x := (.ref r)) (D d22_46) rfl rfl ?_
  refine X617.iloadN (x := (3 : Int32)) (D d22_47) rfl ?_
  show Goes p.tables e below _ (T616.setTop (mkF m 48 #[.val (.ref r), .val (.int (3 : Int32))] [(.int (3 : Int32)), (.ref r), (.int (((StrChars.lo8 c1) &&& (255 : Int32)) <<< ((0 : Int32) &&& 31)))]))
  refine X617.baload (v := (.int (StrChars.hi8 c1))) A0 ⟨by decide, by decide⟩ rfl (D d22_48) ?_
  refine X617.sipush (x := (255 : Int32)) (D d22_49) rfl ?_
  refine X617.iand (D d22_52) ?_
  refine X617.gets (w 100 rfl) Via.refl (Sta.ext X617.old.2 SL) (D d22_53) ?_
  intro T618 X619
  refine X619.ishl (D d22_56) ?_
  refine X619.ior (D d22_57) ?_
  refine X619.i2c (D d22_58) ?_
  exact X619.reti hret (by simp) hlk (D d22_59) (by decide) (by decide) (ret_pair r1)
set_option maxRecDepth 65536 in
set_option maxHeartbeats 40000000 in
theorem ctGC3_2 (l : Launch) (Z : State) (a0 : Array Value) (hw : ∀ d ∈ tables_1, d.before a0 Z = true) (hEL : EW Z a0 consts_1) (z0 : Int32) (S0 : Sta Z Z.heap "java/lang/String" "COMPACT_STRINGS" "Z" (.int z0)) (hz0 : ¬ z0 = 0) (SA1 : Sta Z Z.heap "java/lang/StringUTF16" "$assertionsDisabled" "Z" (.int (1 : Int32))) (SH : Sta Z Z.heap "java/lang/StringUTF16" "HI_BYTE_SHIFT" "I" (.int (0 : Int32))) (SL : Sta Z Z.heap "java/lang/StringUTF16" "LO_BYTE_SHIFT" "I" (.int (8 : Int32))) (r : Addr) (kr : ClassId) (c0 c1 c2 : Int32) (h0 : Heap) (n0 : Nat) (A0 : Arv Z h0 r kr .byte (6 : Int32) [(.int (StrChars.lo8 c0)), (.int (StrChars.hi8 c0)), (.int (StrChars.lo8 c1)), (.int (StrChars.hi8 c1)), (.int (StrChars.lo8 c2)), (.int (StrChars.hi8 c2))] (.int (0 : Int32))) (r2 : Rc c2) :
    Ct l Z consts_1 [] (⟨"java/lang/StringUTF16", "getChar", "([BI)C"⟩ : MethodName) jdk_52_method_5_code 2 (some .char) ({ frames := 0, cells := 0, slots := 0, locals := 0 } : Room) #[(.ref r), (.int (2 : Int32))] h0 n0 [] (fun v _ => v = some (.int c2)) := by
  have w : ∀ {d : Jvm.Cond} (i : Nat), tables_1[i]? = some d → d.before a0 Z = true := fun i q => hw _ (List.mem_of_getElem? q)
  refine Ct.enter (plainFor_of_name pn_2) hEL ?_
  intro p e sS m below meth c T0 hby hml0 hret hlk hnm hs0 X0
  have hml : c.maxLocals = 2 := hml0
  have D : ∀ {pc : Nat} {r : Except DecodeError (Instr × Nat)}, decode jdk_52_method_5_code pc = r → decode c.code pc = r := fun q => hb hby q
  rw [show entryFrame m #[(.ref r), (.int (2 : Int32))] 2 = mkF m 0 #[.val (.ref r), .val (.int (2 : Int32))] [] from by first | (simp [entryFrame, mkF, argsToLocals, Value.category]; done) | rfl]
  refine X0.gets (w 98 rfl) Via.refl (Sta.ext X0.old.2 SA1) (D d22_0) ?_
  intro T620 X621
  refine X621.if_ne 28 (D d22_3) ⟨by decide, by decide⟩ (fun hc622 => ?_) (fun hc622 => absurd hc622 (by decide))
  refine X621.iloadN (x := (2 : Int32)) (D d22_28) rfl ?_
  refine X621.iconst (x := (1 : Int32)) (D d22_29) rfl ?_
  refine X621.ishl (D d22_30) ?_
  show Goes p.tables e below _ (T620.setTop (mkF m 31 #[.val (.ref r), .val (.int (2 : Int32))] [(.int (4 : Int32))]))
  refine X621.istoreN #[.val (.ref r), .val (.int (4 : Int32))] (D d22_31) rfl ?_
  refine X621.aloadN (x := (.ref r)) (D d22_32) rfl rfl ?_
  refine X621.iloadN (x := (4 : Int32)) (D d22_33) rfl ?_
  refine X621.iinc #[.val (.ref r), .val (.int (5 : Int32))] (D d22_34) rfl rfl ?_
  show Goes p.tables e below _ (T620.setTop (mkF m 37 #[.val (.ref r), .val (.int (5 : Int32))] [(.int (4 : Int32)), (.ref r)]))
  refine X621.baload (v := (.int (StrChars.lo8 c2))) A0 ⟨by decide, by decide⟩ rfl (D d22_37) ?_
  refine X621.sipush (x := (255 : Int32)) (D d22_38) rfl ?_
  refine X621.iand (D d22_41) ?_
  refine X621.gets (w 99 rfl) Via.refl (Sta.ext X621.old.2 SH) (D d22_42) ?_
  intro T623 X624
  refine X624.ishl (D d22_45) ?_
  refine X624.aloadN (x := (.ref r)) (D d22_46) rfl rfl ?_
  refine X624.iloadN (x := (5 : Int32)) (D d22_47) rfl ?_
  show Goes p.tables e below _ (T623.setTop (mkF m 48 #[.val (.ref r), .val (.int (5 : Int32))] [(.int (5 : Int32)), (.ref r), (.int (((StrChars.lo8 c2) &&& (255 : Int32)) <<< ((0 : Int32) &&& 31)))]))
  refine X624.baload (v := (.int (StrChars.hi8 c2))) A0 ⟨by decide, by decide⟩ rfl (D d22_48) ?_
  refine X624.sipush (x := (255 : Int32)) (D d22_49) rfl ?_
  refine X624.iand (D d22_52) ?_
  refine X624.gets (w 100 rfl) Via.refl (Sta.ext X624.old.2 SL) (D d22_53) ?_
  intro T625 X626
  refine X626.ishl (D d22_56) ?_
  refine X626.ior (D d22_57) ?_
  refine X626.i2c (D d22_58) ?_
  exact X626.reti hret (by simp) hlk (D d22_59) (by decide) (by decide) (ret_pair r2)
set_option maxRecDepth 65536 in
set_option maxHeartbeats 40000000 in
theorem ctC3_3 (l : Launch) (Z : State) (a0 : Array Value) (hw : ∀ d ∈ tables_1, d.before a0 Z = true) (hEL : EW Z a0 consts_1) (z0 : Int32) (S0 : Sta Z Z.heap "java/lang/String" "COMPACT_STRINGS" "Z" (.int z0)) (hz0 : ¬ z0 = 0) (SA1 : Sta Z Z.heap "java/lang/StringUTF16" "$assertionsDisabled" "Z" (.int (1 : Int32))) (SH : Sta Z Z.heap "java/lang/StringUTF16" "HI_BYTE_SHIFT" "I" (.int (0 : Int32))) (SL : Sta Z Z.heap "java/lang/StringUTF16" "LO_BYTE_SHIFT" "I" (.int (8 : Int32))) (b : Addr) (kb : ClassId) (dv : Value) (c0 c1 c2 : Int32) (h0 : Heap) (n0 : Nat) (A0 : Arv Z h0 b kb .char (3 : Int32) [(.int c0), (.int c1), (.int c2)] dv) (r0 : Rc c0) (r1 : Rc c1) (r2 : Rc c2) (hwide : ¬ ∀ c ∈ [c0, c1, c2], ¬ (255 : Int32) < c) :
    Ct l Z consts_1 [] (⟨"java/lang/StringUTF16", "compress", "([CII)[B"⟩ : MethodName) jdk_52_method_16_code 6 (some (.array .byte)) ({ frames := 3, cells := 2, slots := 9, locals := 40 } : Room) #[(.ref b), (.int (0 : Int32)), (.int (3 : Int32))] h0 n0 [] (fun v h => ∃ (r : Addr) (kr : ClassId), v = some (.ref r) ∧ Arv Z h r kr .byte (6 : Int32) [(.int (StrChars.lo8 c0)), (.int (StrChars.hi8 c0)), (.int (StrChars.lo8 c1)), (.int (StrChars.hi8 c1)), (.int (StrChars.lo8 c2)), (.int (StrChars.hi8 c2))] (.int (0 : Int32))) := by
  have w : ∀ {d : Jvm.Cond} (i : Nat), tables_1[i]? = some d → d.before a0 Z = true := fun i q => hw _ (List.mem_of_getElem? q)
  refine Ct.enter (plainFor_of_name pn_2) hEL ?_
  intro p e sS m below meth c T0 hby hml0 hret hlk hnm hs0 X0
  have hml : c.maxLocals = 6 := hml0
  have D : ∀ {pc : Nat} {r : Except DecodeError (Instr × Nat)}, decode jdk_52_method_16_code pc = r → decode c.code pc = r := fun q => hb hby q
  rw [show entryFrame m #[(.ref b), (.int (0 : Int32)), (.int (3 : Int32))] 6 = mkF m 0 #[.val (.ref b), .val (.int (0 : Int32)), .val (.int (3 : Int32)), .unset, .unset, .unset] [] from by first | (simp [entryFrame, mkF, argsToLocals, Value.category]; done) | rfl]
  refine X0.iloadN (x := (3 : Int32)) (D d7_0) rfl ?_
  refine X0.newarr (w 23 rfl) (n := (3 : Int32)) (D d7_1) (by decide) 3 (by decide) (by decide) (by decide) (by decide) ?_
  intro T627 h628 b629 kb630 g631 X632 E633 A634
  have F635 := A0.ext E633
  have lt636 : b < b629 := by rw [g631]; exact A0.lt
  have F637 : Arv Z h628 b629 kb630 .byte (3 : Int32) [(.int (0 : Int32)), (.int (0 : Int32)), (.int (0 : Int32))] (.int (0 : Int32)) := A634.pad (pad_rep [] (.int (0 : Int32)) 3)
  refine X632.astoreN #[.val (.ref b), .val (.int (0 : Int32)), .val (.int (3 : Int32)), .val (.ref b629), .unset, .unset] (D d7_3) rfl rfl ?_
  refine X632.aloadN (x := (.ref b)) (D d7_4) rfl rfl ?_
  refine X632.iloadN (x := (0 : Int32)) (D d7_5) rfl ?_
  refine X632.aloadN (x := (.ref b629)) (D d7_6) rfl rfl ?_
  refine X632.iconst (x := (0 : Int32)) (D d7_7) rfl ?_
  refine X632.iloadN (x := (3 : Int32)) (D d7_8) rfl ?_
  show Goes p.tables e below _ (T627.setTop (mkF m 9 #[.val (.ref b), .val (.int (0 : Int32)), .val (.int (3 : Int32)), .val (.ref b629), .unset, .unset] [(.int (3 : Int32)), (.int (0 : Int32)), (.ref b629), (.int (0 : Int32)), (.ref b)]))
  by_cases hj0 : (255 : Int32) < c0
  · show Goes p.tables e below _ (T627.setTop (mkF m 9 #[.val (.ref b), .val (.int (0 : Int32)), .val (.int (3 : Int32)), .val (.ref b629), .unset, .unset] [(.int (3 : Int32)), (.int (0 : Int32)), (.ref b629), (.int (0 : Int32)), (.ref b)]))
    refine X632.calls [(.ref b), (.int (0 : Int32)), (.ref b629), (.int (0 : Int32)), (.int (3 : Int32))] [] (ctC5_3_0 l Z a0 hw hEL z0 S0 hz0 b b629 _ _ _ c0 c1 c2 _ _ F635 F637 hj0) (w 44 rfl) (w 45 rfl) (w 42 rfl) (w 46 rfl) (by decide) (by simp) (by decide) 0 (by decide) (by decide) (by decide) (lenOf pd_5 rfl) rfl (leb rfl) (by rw [hml]; rfl) (D d7_9) ?_
    rintro T638 h639 _ X641 K642 rfl
    have F643 := F635.keep K642 (ninS (Nat.ne_of_lt lt636) nin0)
    show Goes p.tables e below _ (T638.setTop (mkF m 12 #[.val (.ref b), .val (.int (0 : Int32)), .val (.int (3 : Int32)), .val (.ref b629), .unset, .unset] [(.int (0 : Int32))]))
    refine X641.istore #[.val (.ref b), .val (.int (0 : Int32)), .val (.int (3 : Int32)), .val (.ref b629), .val (.int (0 : Int32)), .unset] (D d7_12) rfl ?_
    refine X641.iload (x := (0 : Int32)) (D d7_14) rfl ?_
    refine X641.iloadN (x := (3 : Int32)) (D d7_16) rfl ?_
    refine X641.icmp_eq 57 (D d7_17) ⟨by decide, by decide⟩ (fun hc644 => absurd hc644 (by decide)) (fun hc644 => ?_)
    refine X641.aloadN (x := (.ref b)) (D d7_20) rfl rfl ?_
    refine X641.iloadN (x := (0 : Int32)) (D d7_21) rfl ?_
    refine X641.iloadN (x := (3 : Int32)) (D d7_22) rfl ?_
    refine X641.calls [(.ref b), (.int (0 : Int32)), (.int (3 : Int32))] [] (ctTB3 l Z a0 hw hEL z0 S0 hz0 SA1 SH SL b _ _ c0 c1 c2 _ _ F643) (w 85 rfl) (w 86 rfl) (w 42 rfl) (w 87 rfl) (by decide) (fun _ q => nomatch q) (by decide) 0 (by decide) (by decide) (by decide) (lenOf pd_6 rfl) rfl (leb rfl) (by rw [hml]; rfl) (D d7_23) ?_
    rintro T645 h646 _ X648 K649 ⟨r, kr, rfl, A9⟩
    have F650 := F643.keep K649 nin0
    show Goes p.tables e below _ (T645.setTop (mkF m 26 #[.val (.ref b), .val (.int (0 : Int32)), .val (.int (3 : Int32)), .val (.ref b629), .val (.int (0 : Int32)), .unset] [(.ref r)]))
    refine X648.astore #[.val (.ref b), .val (.int (0 : Int32)), .val (.int (3 : Int32)), .val (.ref b629), .val (.int (0 : Int32)), .val (.ref r)] (D d7_26) rfl rfl ?_
    refine X648.aload (x := (.ref r)) (D d7_28) rfl rfl ?_
    refine X648.iload (x := (0 : Int32)) (D d7_30) rfl ?_
    refine X648.calls [(.ref r), (.int (0 : Int32))] [] (ctGC3_0 l Z a0 hw hEL z0 S0 hz0 SA1 SH SL r kr c0 c1 c2 _ _ A9 r0) (w 101 rfl) (w 102 rfl) (w 42 rfl) (w 103 rfl) (by decide) (fun _ q => nomatch q) (by decide) 0 (by decide) (by decide) (by decide) (lenOf pd_7 rfl) rfl (leb rfl) (by rw [hml]; rfl) (D d7_32) ?_
    rintro T651 h652 _ X654 K655 rfl
    have F656 := F650.keep K655 nin0
    have F657 := A9.keep K655 nin0
    show Goes p.tables e below _ (T651.setTop (mkF m 35 #[.val (.ref b), .val (.int (0 : Int32)), .val (.int (3 : Int32)), .val (.ref b629), .val (.int (0 : Int32)), .val (.ref r)] [(.int c0)]))
    refine X654.sipush (x := (255 : Int32)) (D d7_35) rfl ?_
    refine X654.icmp_gt 54 (D d7_38) ⟨by decide, by decide⟩ (fun hn658 => ?_) (fun hc => (hc hj0).elim)
    refine X654.aload (x := (.ref r)) (D d7_54) rfl rfl ?_
    exact X654.retA hret rfl rfl hlk (D d7_56) (by decide) (by decide) (⟨r, kr, rfl, F657⟩)
  · show Goes p.tables e below _ (T627.setTop (mkF m 9 #[.val (.ref b), .val (.int (0 : Int32)), .val (.int (3 : Int32)), .val (.ref b629), .unset, .unset] [(.int (3 : Int32)), (.int (0 : Int32)), (.ref b629), (.int (0 : Int32)), (.ref b)]))
    show Goes p.tables e below _ (T627.setTop (mkF m 9 #[.val (.ref b), .val (.int (0 : Int32)), .val (.int (3 : Int32)), .val (.ref b629), .unset, .unset] [(.int (3 : Int32)), (.int (0 : Int32)), (.ref b629), (.int (0 : Int32)), (.ref b)]))
    by_cases hj1 : (255 : Int32) < c1
    · show Goes p.tables e below _ (T627.setTop (mkF m 9 #[.val (.ref b), .val (.int (0 : Int32)), .val (.int (3 : Int32)), .val (.ref b629), .unset, .unset] [(.int (3 : Int32)), (.int (0 : Int32)), (.ref b629), (.int (0 : Int32)), (.ref b)]))
      refine X632.calls [(.ref b), (.int (0 : Int32)), (.ref b629), (.int (0 : Int32)), (.int (3 : Int32))] [] (ctC5_3_1 l Z a0 hw hEL z0 S0 hz0 b b629 _ _ _ c0 c1 c2 _ _ F635 F637 hj1 hj0) (w 44 rfl) (w 45 rfl) (w 42 rfl) (w 46 rfl) (by decide) (by simp) (by decide) 0 (by decide) (by decide) (by decide) (lenOf pd_5 rfl) rfl (leb rfl) (by rw [hml]; rfl) (D d7_9) ?_
      rintro T659 h660 _ X662 K663 rfl
      have F664 := F635.keep K663 (ninS (Nat.ne_of_lt lt636) nin0)
      show Goes p.tables e below _ (T659.setTop (mkF m 12 #[.val (.ref b), .val (.int (0 : Int32)), .val (.int (3 : Int32)), .val (.ref b629), .unset, .unset] [(.int (1 : Int32))]))
      refine X662.istore #[.val (.ref b), .val (.int (0 : Int32)), .val (.int (3 : Int32)), .val (.ref b629), .val (.int (1 : Int32)), .unset] (D d7_12) rfl ?_
      refine X662.iload (x := (1 : Int32)) (D d7_14) rfl ?_
      refine X662.iloadN (x := (3 : Int32)) (D d7_16) rfl ?_
      refine X662.icmp_eq 57 (D d7_17) ⟨by decide, by decide⟩ (fun hc665 => absurd hc665 (by decide)) (fun hc665 => ?_)
      refine X662.aloadN (x := (.ref b)) (D d7_20) rfl rfl ?_
      refine X662.iloadN (x := (0 : Int32)) (D d7_21) rfl ?_
      refine X662.iloadN (x := (3 : Int32)) (D d7_22) rfl ?_
      refine X662.calls [(.ref b), (.int (0 : Int32)), (.int (3 : Int32))] [] (ctTB3 l Z a0 hw hEL z0 S0 hz0 SA1 SH SL b _ _ c0 c1 c2 _ _ F664) (w 85 rfl) (w 86 rfl) (w 42 rfl) (w 87 rfl) (by decide) (fun _ q => nomatch q) (by decide) 0 (by decide) (by decide) (by decide) (lenOf pd_6 rfl) rfl (leb rfl) (by rw [hml]; rfl) (D d7_23) ?_
      rintro T666 h667 _ X669 K670 ⟨r, kr, rfl, A9⟩
      have F671 := F664.keep K670 nin0
      show Goes p.tables e below _ (T666.setTop (mkF m 26 #[.val (.ref b), .val (.int (0 : Int32)), .val (.int (3 : Int32)), .val (.ref b629), .val (.int (1 : Int32)), .unset] [(.ref r)]))
      refine X669.astore #[.val (.ref b), .val (.int (0 : Int32)), .val (.int (3 : Int32)), .val (.ref b629), .val (.int (1 : Int32)), .val (.ref r)] (D d7_26) rfl rfl ?_
      refine X669.aload (x := (.ref r)) (D d7_28) rfl rfl ?_
      refine X669.iload (x := (1 : Int32)) (D d7_30) rfl ?_
      refine X669.calls [(.ref r), (.int (1 : Int32))] [] (ctGC3_1 l Z a0 hw hEL z0 S0 hz0 SA1 SH SL r kr c0 c1 c2 _ _ A9 r1) (w 101 rfl) (w 102 rfl) (w 42 rfl) (w 103 rfl) (by decide) (fun _ q => nomatch q) (by decide) 0 (by decide) (by decide) (by decide) (lenOf pd_7 rfl) rfl (leb rfl) (by rw [hml]; rfl) (D d7_32) ?_
      rintro T672 h673 _ X675 K676 rfl
      have F677 := F671.keep K676 nin0
      have F678 := A9.keep K676 nin0
      show Goes p.tables e below _ (T672.setTop (mkF m 35 #[.val (.ref b), .val (.int (0 : Int32)), .val (.int (3 : Int32)), .val (.ref b629), .val (.int (1 : Int32)), .val (.ref r)] [(.int c1)]))
      refine X675.sipush (x := (255 : Int32)) (D d7_35) rfl ?_
      refine X675.icmp_gt 54 (D d7_38) ⟨by decide, by decide⟩ (fun hn679 => ?_) (fun hc => (hc hj1).elim)
      refine X675.aload (x := (.ref r)) (D d7_54) rfl rfl ?_
      exact X675.retA hret rfl rfl hlk (D d7_56) (by decide) (by decide) (⟨r, kr, rfl, F678⟩)
    · show Goes p.tables e below _ (T627.setTop (mkF m 9 #[.val (.ref b), .val (.int (0 : Int32)), .val (.int (3 : Int32)), .val (.ref b629), .unset, .unset] [(.int (3 : Int32)), (.int (0 : Int32)), (.ref b629), (.int (0 : Int32)), (.ref b)]))
      show Goes p.tables e below _ (T627.setTop (mkF m 9 #[.val (.ref b), .val (.int (0 : Int32)), .val (.int (3 : Int32)), .val (.ref b629), .unset, .unset] [(.int (3 : Int32)), (.int (0 : Int32)), (.ref b629), (.int (0 : Int32)), (.ref b)]))
      by_cases hj2 : (255 : Int32) < c2
      · show Goes p.tables e below _ (T627.setTop (mkF m 9 #[.val (.ref b), .val (.int (0 : Int32)), .val (.int (3 : Int32)), .val (.ref b629), .unset, .unset] [(.int (3 : Int32)), (.int (0 : Int32)), (.ref b629), (.int (0 : Int32)), (.ref b)]))
        refine X632.calls [(.ref b), (.int (0 : Int32)), (.ref b629), (.int (0 : Int32)), (.int (3 : Int32))] [] (ctC5_3_2 l Z a0 hw hEL z0 S0 hz0 b b629 _ _ _ c0 c1 c2 _ _ F635 F637 hj2 hj0 hj1) (w 44 rfl) (w 45 rfl) (w 42 rfl) (w 46 rfl) (by decide) (by simp) (by decide) 0 (by decide) (by decide) (by decide) (lenOf pd_5 rfl) rfl (leb rfl) (by rw [hml]; rfl) (D d7_9) ?_
        rintro T680 h681 _ X683 K684 rfl
        have F685 := F635.keep K684 (ninS (Nat.ne_of_lt lt636) nin0)
        show Goes p.tables e below _ (T680.setTop (mkF m 12 #[.val (.ref b), .val (.int (0 : Int32)), .val (.int (3 : Int32)), .val (.ref b629), .unset, .unset] [(.int (2 : Int32))]))
        refine X683.istore #[.val (.ref b), .val (.int (0 : Int32)), .val (.int (3 : Int32)), .val (.ref b629), .val (.int (2 : Int32)), .unset] (D d7_12) rfl ?_
        refine X683.iload (x := (2 : Int32)) (D d7_14) rfl ?_
        refine X683.iloadN (x := (3 : Int32)) (D d7_16) rfl ?_
        refine X683.icmp_eq 57 (D d7_17) ⟨by decide, by decide⟩ (fun hc686 => absurd hc686 (by decide)) (fun hc686 => ?_)
        refine X683.aloadN (x := (.ref b)) (D d7_20) rfl rfl ?_
        refine X683.iloadN (x := (0 : Int32)) (D d7_21) rfl ?_
        refine X683.iloadN (x := (3 : Int32)) (D d7_22) rfl ?_
        refine X683.calls [(.ref b), (.int (0 : Int32)), (.int (3 : Int32))] [] (ctTB3 l Z a0 hw hEL z0 S0 hz0 SA1 SH SL b _ _ c0 c1 c2 _ _ F685) (w 85 rfl) (w 86 rfl) (w 42 rfl) (w 87 rfl) (by decide) (fun _ q => nomatch q) (by decide) 0 (by decide) (by decide) (by decide) (lenOf pd_6 rfl) rfl (leb rfl) (by rw [hml]; rfl) (D d7_23) ?_
        rintro T687 h688 _ X690 K691 ⟨r, kr, rfl, A9⟩
        have F692 := F685.keep K691 nin0
        show Goes p.tables e below _ (T687.setTop (mkF m 26 #[.val (.ref b), .val (.int (0 : Int32)), .val (.int (3 : Int32)), .val (.ref b629), .val (.int (2 : Int32)), .unset] [(.ref r)]))
        refine X690.astore #[.val (.ref b), .val (.int (0 : Int32)), .val (.int (3 : Int32)), .val (.ref b629), .val (.int (2 : Int32)), .val (.ref r)] (D d7_26) rfl rfl ?_
        refine X690.aload (x := (.ref r)) (D d7_28) rfl rfl ?_
        refine X690.iload (x := (2 : Int32)) (D d7_30) rfl ?_
        refine X690.calls [(.ref r), (.int (2 : Int32))] [] (ctGC3_2 l Z a0 hw hEL z0 S0 hz0 SA1 SH SL r kr c0 c1 c2 _ _ A9 r2) (w 101 rfl) (w 102 rfl) (w 42 rfl) (w 103 rfl) (by decide) (fun _ q => nomatch q) (by decide) 0 (by decide) (by decide) (by decide) (lenOf pd_7 rfl) rfl (leb rfl) (by rw [hml]; rfl) (D d7_32) ?_
        rintro T693 h694 _ X696 K697 rfl
        have F698 := F692.keep K697 nin0
        have F699 := A9.keep K697 nin0
        show Goes p.tables e below _ (T693.setTop (mkF m 35 #[.val (.ref b), .val (.int (0 : Int32)), .val (.int (3 : Int32)), .val (.ref b629), .val (.int (2 : Int32)), .val (.ref r)] [(.int c2)]))
        refine X696.sipush (x := (255 : Int32)) (D d7_35) rfl ?_
        refine X696.icmp_gt 54 (D d7_38) ⟨by decide, by decide⟩ (fun hn700 => ?_) (fun hc => (hc hj2).elim)
        refine X696.aload (x := (.ref r)) (D d7_54) rfl rfl ?_
        exact X696.retA hret rfl rfl hlk (D d7_56) (by decide) (by decide) (⟨r, kr, rfl, F699⟩)
      · show Goes p.tables e below _ (T627.setTop (mkF m 9 #[.val (.ref b), .val (.int (0 : Int32)), .val (.int (3 : Int32)), .val (.ref b629), .unset, .unset] [(.int (3 : Int32)), (.int (0 : Int32)), (.ref b629), (.int (0 : Int32)), (.ref b)]))
        exact (hwide (hpS hj0 (hpS hj1 (hpS hj2 hp0)))).elim
set_option maxRecDepth 65536 in
set_option maxHeartbeats 40000000 in
theorem ctCF3 (l : Launch) (Z : State) (a0 : Array Value) (hw : ∀ d ∈ tables_1, d.before a0 Z = true) (hEL : EW Z a0 consts_1) (z0 : Int32) (S0 : Sta Z Z.heap "java/lang/String" "COMPACT_STRINGS" "Z" (.int z0)) (hz0 : ¬ z0 = 0) (r : Addr) (kr : ClassId) (vs : List Value) (dv : Value) (h0 : Heap) (n0 : Nat) (A0 : Arv Z h0 r kr .byte (6 : Int32) vs dv) :
    Ct l Z consts_1 [] (⟨"java/lang/StringUTF16", "coderFromArrayLen", "([BI)B"⟩ : MethodName) jdk_52_method_15_code 2 (some .byte) ({ frames := 0, cells := 0, slots := 0, locals := 0 } : Room) #[(.ref r), (.int (3 : Int32))] h0 n0 [] (fun v _ => v = some (.int (1 : Int32))) := by
  have w : ∀ {d : Jvm.Cond} (i : Nat), tables_1[i]? = some d → d.before a0 Z = true := fun i q => hw _ (List.mem_of_getElem? q)
  refine Ct.enter (plainFor_of_name pn_2) hEL ?_
  intro p e sS m below meth c T0 hby hml0 hret hlk hnm hs0 X0
  have hml : c.maxLocals = 2 := hml0
  have D : ∀ {pc : Nat} {r : Except DecodeError (Instr × Nat)}, decode jdk_52_method_15_code pc = r → decode c.code pc = r := fun q => hb hby q
  rw [show entryFrame m #[(.ref r), (.int (3 : Int32))] 2 = mkF m 0 #[.val (.ref r), .val (.int (3 : Int32))] [] from by first | (simp [entryFrame, mkF, argsToLocals, Value.category]; done) | rfl]
  refine X0.iloadN (x := (3 : Int32)) (D d9_0) rfl ?_
  refine X0.aloadN (x := (.ref r)) (D d9_1) rfl rfl ?_
  refine X0.alen A0 (D d9_2) ?_
  refine X0.isub (D d9_3) ?_
  show Goes p.tables e below _ (T0.setTop (mkF m 4 #[.val (.ref r), .val (.int (3 : Int32))] [(.int (-3 : Int32))]))
  refine X0.bipush (x := (31 : Int32)) (D d9_4) rfl ?_
  refine X0.iushr (D d9_6) ?_
  show Goes p.tables e below _ (T0.setTop (mkF m 7 #[.val (.ref r), .val (.int (3 : Int32))] [(.int (1 : Int32))]))
  refine X0.i2b (D d9_7) ?_
  show Goes p.tables e below _ (T0.setTop (mkF m 8 #[.val (.ref r), .val (.int (3 : Int32))] [(.int (1 : Int32))]))
  exact X0.reti hret (by simp) hlk (D d9_8) (by decide) (by decide) (rfl)
set_option maxRecDepth 65536 in
set_option maxHeartbeats 40000000 in
theorem ctI4_3 (l : Launch) (Z : State) (a0 : Array Value) (hw : ∀ d ∈ tables_1, d.before a0 Z = true) (hEL : EW Z a0 consts_1) (z0 : Int32) (S0 : Sta Z Z.heap "java/lang/String" "COMPACT_STRINGS" "Z" (.int z0)) (hz0 : ¬ z0 = 0) (SA1 : Sta Z Z.heap "java/lang/StringUTF16" "$assertionsDisabled" "Z" (.int (1 : Int32))) (SH : Sta Z Z.heap "java/lang/StringUTF16" "HI_BYTE_SHIFT" "I" (.int (0 : Int32))) (SL : Sta Z Z.heap "java/lang/StringUTF16" "LO_BYTE_SHIFT" "I" (.int (8 : Int32))) (a b : Addr) (kb : ClassId) (dv : Value) (c0 c1 c2 : Int32) (h0 : Heap) (n0 : Nat) (E0 : Exa Z h0 a "java/lang/String") (F0 : Fld Z h0 a "java/lang/String" "value" "[B" .null) (F1 : Fld Z h0 a "java/lang/String" "coder" "B" (.int (0 : Int32))) (A0 : Arv Z h0 b kb .char (3 : Int32) [(.int c0), (.int c1), (.int c2)] dv) (r0 : Rc c0) (r1 : Rc c1) (r2 : Rc c2) (hwide : ¬ ∀ c ∈ [c0, c1, c2], ¬ (255 : Int32) < c) :
    Ct l Z consts_1 [] (⟨"java/lang/String", "<init>", "([CIILjava/lang/Void;)V"⟩ : MethodName) jdk_42_method_149_code 6 none ({ frames := 4, cells := 2, slots := 9, locals := 57 } : Room) #[(.ref a), (.ref b), (.int (0 : Int32)), (.int (3 : Int32)), .null] h0 n0 [a] (fun v h => v = none ∧ ∃ t : Addr, UStr Z h a t [c0, c1, c2]) := by
  have w : ∀ {d : Jvm.Cond} (i : Nat), tables_1[i]? = some d → d.before a0 Z = true := fun i q => hw _ (List.mem_of_getElem? q)
  refine Ct.enter (plainFor_of_name pn_1) hEL ?_
  intro p e sS m below meth c T0 hby hml0 hret hlk hnm hs0 X0
  have hml : c.maxLocals = 6 := hml0
  have D : ∀ {pc : Nat} {r : Except DecodeError (Instr × Nat)}, decode jdk_42_method_149_code pc = r → decode c.code pc = r := fun q => hb hby q
  rw [show entryFrame m #[(.ref a), (.ref b), (.int (0 : Int32)), (.int (3 : Int32)), .null] 6 = mkF m 0 #[.val (.ref a), .val (.ref b), .val (.int (0 : Int32)), .val (.int (3 : Int32)), .val .null, .unset] [] from by first | (simp [entryFrame, mkF, argsToLocals, Value.category]; done) | rfl]
  refine X0.aloadN (x := (.ref a)) (D d3_0) rfl rfl ?_
  refine X0.inito (w 19 rfl) (w 20 rfl) (w 21 rfl) (D d3_1) (by rw [hml]; rfl) (by decide) 0 (leb rfl) (by decide) ?_
  intro T701 X702
  refine X702.iloadN (x := (3 : Int32)) (D d3_4) rfl ?_
  refine X702.if_ne 27 (D d3_5) ⟨by decide, by decide⟩ (fun hc703 => ?_) (fun hc703 => absurd hc703 (by decide))
  refine X702.gets (w 39 rfl) Via.refl (Sta.ext X702.old.2 S0) (D d3_27) ?_
  intro T704 X705
  refine X705.if_eq 58 (D d3_30) ⟨by decide, by decide⟩ (fun hc => (hz0 hc).elim) (fun hn706 => ?_)
  refine X705.aloadN (x := (.ref b)) (D d3_33) rfl rfl ?_
  refine X705.iloadN (x := (0 : Int32)) (D d3_34) rfl ?_
  refine X705.iloadN (x := (3 : Int32)) (D d3_35) rfl ?_
  refine X705.calls [(.ref b), (.int (0 : Int32)), (.int (3 : Int32))] [] (ctC3_3 l Z a0 hw hEL z0 S0 hz0 SA1 SH SL b _ _ c0 c1 c2 _ _ A0 r0 r1 r2 hwide) (w 40 rfl) (w 41 rfl) (w 42 rfl) (w 43 rfl) (by decide) (fun _ q => nomatch q) (by decide) 0 (by decide) (by decide) (by decide) (lenOf pd_6 rfl) rfl (leb rfl) (by rw [hml]; rfl) (D d3_36) ?_
  rintro T707 h708 _ X710 K711 ⟨r, kr, rfl, A9⟩
  have F712 := E0.keep K711
  have F713 := F0.keep K711 nin0
  have F714 := F1.keep K711 nin0
  have F715 := A0.keep K711 nin0
  show Goes p.tables e below _ (T707.setTop (mkF m 39 #[.val (.ref a), .val (.ref b), .val (.int (0 : Int32)), .val (.int (3 : Int32)), .val .null, .unset] [(.ref r)]))
  refine X710.astore #[.val (.ref a), .val (.ref b), .val (.int (0 : Int32)), .val (.int (3 : Int32)), .val .null, .val (.ref r)] (D d3_39) rfl rfl ?_
  refine X710.aloadN (x := (.ref a)) (D d3_41) rfl rfl ?_
  refine X710.aload (x := (.ref r)) (D d3_42) rfl rfl ?_
  refine X710.iloadN (x := (3 : Int32)) (D d3_44) rfl ?_
  refine X710.calls [(.ref r), (.int (3 : Int32))] [(.ref a)] (ctCF3 l Z a0 hw hEL z0 S0 hz0 r kr _ _ _ _ A9) (w 47 rfl) (w 48 rfl) (w 42 rfl) (w 49 rfl) (by decide) (fun _ q => nomatch q) (by decide) 1 (by decide) (by decide) (by decide) (lenOf pd_8 rfl) rfl (leb rfl) (by rw [hml]; rfl) (D d3_45) ?_
  rintro T716 h717 _ X719 K720 rfl
  have F721 := F712.keep K720
  have F722 := F713.keep K720 nin0
  have F723 := F714.keep K720 nin0
  have F724 := F715.keep K720 nin0
  have F725 := A9.keep K720 nin0
  show Goes p.tables e below _ (T716.setTop (mkF m 48 #[.val (.ref a), .val (.ref b), .val (.int (0 : Int32)), .val (.int (3 : Int32)), .val .null, .val (.ref r)] [(.int (1 : Int32)), (.ref a)]))
  refine X719.putf (w 29 rfl) Via.refl F723 F721 (Or.inr ⟨(w 25 rfl), rfl, hnm⟩) (w 9 rfl) (ty := .byte) (by decide) rfl rfl (D d3_48) (by simp) ?_
  intro T726 h727 X728 W729
  have F730 := F723.same W729
  have F731 := F721.wr W729
  have F732 := F722.other W729 (Or.inr (slot_ne (t := (.array .byte)) (t' := .byte) (Or.inr (w 24 rfl)) (Or.inr (w 25 rfl)) (by decide) (by decide) (by decide)))
  have F733 := F724.other W729 (Exa.neArv F721 F724 (w 9 rfl)).symm
  have F734 := F725.other W729 (Exa.neArv F721 F725 (w 9 rfl)).symm
  refine X728.aloadN (x := (.ref a)) (D d3_51) rfl rfl ?_
  refine X728.aload (x := (.ref r)) (D d3_52) rfl rfl ?_
  refine X728.putf (w 28 rfl) Via.refl F732 F731 (Or.inr ⟨(w 24 rfl), rfl, hnm⟩) (w 9 rfl) (ty := (.array .byte)) (by decide) rfl rfl (D d3_54) (by simp) ?_
  intro T735 h736 X737 W738
  have F739 := F732.same W738
  have F740 := F731.wr W738
  have F741 := F733.other W738 (Exa.neArv F731 F733 (w 9 rfl)).symm
  have F742 := F734.other W738 (Exa.neArv F731 F734 (w 9 rfl)).symm
  have F743 := F730.other W738 (Or.inr (slot_ne (t := .byte) (t' := (.array .byte)) (Or.inr (w 25 rfl)) (Or.inr (w 24 rfl)) (by decide) (by decide) (by decide)))
  exact X737.retn hret hlk (D d3_57) (by decide) (by decide) (⟨rfl, r, F740, kr, F739, F743, F742⟩)
set_option maxRecDepth 65536 in
set_option maxHeartbeats 40000000 in
theorem ctI1_3 (l : Launch) (Z : State) (a0 : Array Value) (hw : ∀ d ∈ tables_1, d.before a0 Z = true) (hEL : EW Z a0 consts_1) (z0 : Int32) (S0 : Sta Z Z.heap "java/lang/String" "COMPACT_STRINGS" "Z" (.int z0)) (hz0 : ¬ z0 = 0) (SA1 : Sta Z Z.heap "java/lang/StringUTF16" "$assertionsDisabled" "Z" (.int (1 : Int32))) (SH : Sta Z Z.heap "java/lang/StringUTF16" "HI_BYTE_SHIFT" "I" (.int (0 : Int32))) (SL : Sta Z Z.heap "java/lang/StringUTF16" "LO_BYTE_SHIFT" "I" (.int (8 : Int32))) (a b : Addr) (kb : ClassId) (dv : Value) (c0 c1 c2 : Int32) (h0 : Heap) (n0 : Nat) (E0 : Exa Z h0 a "java/lang/String") (F0 : Fld Z h0 a "java/lang/String" "value" "[B" .null) (F1 : Fld Z h0 a "java/lang/String" "coder" "B" (.int (0 : Int32))) (A0 : Arv Z h0 b kb .char (3 : Int32) [(.int c0), (.int c1), (.int c2)] dv) (r0 : Rc c0) (r1 : Rc c1) (r2 : Rc c2) (hwide : ¬ ∀ c ∈ [c0, c1, c2], ¬ (255 : Int32) < c) :
    Ct l Z consts_1 [] (⟨"java/lang/String", "<init>", "([C)V"⟩ : MethodName) jdk_42_method_3_code 2 none ({ frames := 5, cells := 2, slots := 9, locals := 74 } : Room) #[(.ref a), (.ref b)] h0 n0 [a] (fun v h => v = none ∧ ∃ t : Addr, UStr Z h a t [c0, c1, c2]) := by
  have w : ∀ {d : Jvm.Cond} (i : Nat), tables_1[i]? = some d → d.before a0 Z = true := fun i q => hw _ (List.mem_of_getElem? q)
  refine Ct.enter (plainFor_of_name pn_1) hEL ?_
  intro p e sS m below meth c T0 hby hml0 hret hlk hnm hs0 X0
  have hml : c.maxLocals = 2 := hml0
  have D : ∀ {pc : Nat} {r : Except DecodeError (Instr × Nat)}, decode jdk_42_method_3_code pc = r → decode c.code pc = r := fun q => hb hby q
  rw [show entryFrame m #[(.ref a), (.ref b)] 2 = mkF m 0 #[.val (.ref a), .val (.ref b)] [] from by first | (simp [entryFrame, mkF, argsToLocals, Value.category]; done) | rfl]
  refine X0.aloadN (x := (.ref a)) (D d2_0) rfl rfl ?_
  refine X0.aloadN (x := (.ref b)) (D d2_1) rfl rfl ?_
  refine X0.iconst (x := (0 : Int32)) (D d2_2) rfl ?_
  refine X0.aloadN (x := (.ref b)) (D d2_3) rfl rfl ?_
  refine X0.alen A0 (D d2_4) ?_
  refine X0.anull (D d2_5) ?_
  refine X0.callc (a := a) [(.ref b), (.int (0 : Int32)), (.int (3 : Int32)), .null] [] (ctI4_3 l Z a0 hw hEL z0 S0 hz0 SA1 SH SL a b _ _ c0 c1 c2 _ _ E0 F0 F1 A0 r0 r1 r2 hwide) rfl (w 15 rfl) (w 16 rfl) (w 10 rfl) (w 18 rfl) (by decide) (by simp) (by decide) 0 (by decide) (by decide) (by decide) (lenOf pd_1 rfl) rfl (leb rfl) (by rw [hml]; rfl) (D d2_6) ?_
  rintro T744 h745 _ X747 K748 ⟨rfl, t, O⟩
  have F749 := E0.keep K748
  have F750 := A0.keep K748 (ninS (Exa.neArv E0 A0 (w 9 rfl)).symm nin0)
  show Goes p.tables e below _ (T744.setTop (mkF m 9 #[.val (.ref a), .val (.ref b)] []))
  exact X747.retn hret hlk (D d2_9) (by decide) (by decide) (⟨rfl, t, O⟩)
set_option maxRecDepth 65536 in
set_option maxHeartbeats 40000000 in
theorem ctC5_4_0 (l : Launch) (Z : State) (a0 : Array Value) (hw : ∀ d ∈ tables_1, d.before a0 Z = true) (hEL : EW Z a0 consts_1) (z0 : Int32) (S0 : Sta Z Z.heap "java/lang/String" "COMPACT_STRINGS" "Z" (.int z0)) (hz0 : ¬ z0 = 0) (b d : Addr) (kb kd : ClassId) (dv : Value) (c0 c1 c2 c3 : Int32) (h0 : Heap) (n0 : Nat) (A0 : Arv Z h0 b kb .char (4 : Int32) [(.int c0), (.int c1), (.int c2), (.int c3)] dv) (A1 : Arv Z h0 d kd .byte (4 : Int32) [(.int (0 : Int32)), (.int (0 : Int32)), (.int (0 : Int32)), (.int (0 : Int32))] (.int (0 : Int32))) (hk : (255 : Int32) < c0) :
    Ct l Z consts_1 [] (⟨"java/lang/StringUTF16", "compress", "([CI[BII)I"⟩ : MethodName) jdk_52_method_21_code 7 (some .int) ({ frames := 0, cells := 0, slots := 0, locals := 0 } : Room) #[(.ref b), (.int (0 : Int32)), (.ref d), (.int (0 : Int32)), (.int (4 : Int32))] h0 n0 [d] (fun v _ => v = some (.int (0 : Int32))) := by
  have w : ∀ {d : Jvm.Cond} (i : Nat), tables_1[i]? = some d → d.before a0 Z = true := fun i q => hw _ (List.mem_of_getElem? q)
  refine Ct.enter (plainFor_of_name pn_2) hEL ?_
  intro p e sS m below meth c T0 hby hml0 hret hlk hnm hs0 X0
  have hml : c.maxLocals = 7 := hml0
  have D : ∀ {pc : Nat} {r : Except DecodeError (Instr × Nat)}, decode jdk_52_method_21_code pc = r → decode c.code pc = r := fun q => hb hby q
  rw [show entryFrame m #[(.ref b), (.int (0 : Int32)), (.ref d), (.int (0 : Int32)), (.int (4 : Int32))] 7 = mkF m 0 #[.val (.ref b), .val (.int (0 : Int32)), .val (.ref d), .val (.int (0 : Int32)), .val (.int (4 : Int32)), .unset, .unset] [] from by first | (simp [entryFrame, mkF, argsToLocals, Value.category]; done) | rfl]
  refine X0.iconst (x := (0 : Int32)) (D d8_0) rfl ?_
  refine X0.istore #[.val (.ref b), .val (.int (0 : Int32)), .val (.ref d), .val (.int (0 : Int32)), .val (.int (4 : Int32)), .val (.int (0 : Int32)), .unset] (D d8_1) rfl ?_
  refine X0.iload (x := (0 : Int32)) (D d8_3) rfl ?_
  refine X0.iload (x := (4 : Int32)) (D d8_5) rfl ?_
  refine X0.icmp_ge 44 (D d8_7) ⟨by decide, by decide⟩ (fun hc751 => absurd hc751 (by decide)) (fun hc751 => ?_)
  refine X0.aloadN (x := (.ref b)) (D d8_10) rfl rfl ?_
  refine X0.iloadN (x := (0 : Int32)) (D d8_11) rfl ?_
  show Goes p.tables e below _ (T0.setTop (mkF m 12 #[.val (.ref b), .val (.int (0 : Int32)), .val (.ref d), .val (.int (0 : Int32)), .val (.int (4 : Int32)), .val (.int (0 : Int32)), .unset] [(.int (0 : Int32)), (.ref b)]))
  refine X0.caload (v := (.int c0)) A0 ⟨by decide, by decide⟩ rfl (D d8_12) ?_
  refine X0.istore #[.val (.ref b), .val (.int (0 : Int32)), .val (.ref d), .val (.int (0 : Int32)), .val (.int (4 : Int32)), .val (.int (0 : Int32)), .val (.int c0)] (D d8_13) rfl ?_
  refine X0.iload (x := c0) (D d8_15) rfl ?_
  refine X0.sipush (x := (255 : Int32)) (D d8_17) rfl ?_
  refine X0.icmp_le 26 (D d8_20) ⟨by decide, by decide⟩ (fun hc => (hc hk).elim) (fun hn752 => ?_)
  refine X0.iload (x := (0 : Int32)) (D d8_23) rfl ?_
  exact X0.retI hret hlk (D d8_25) (by decide) (by decide) (rfl)
set_option maxRecDepth 65536 in
set_option maxHeartbeats 40000000 in
theorem ctC5_4_1 (l : Launch) (Z : State) (a0 : Array Value) (hw : ∀ d ∈ tables_1, d.before a0 Z = true) (hEL : EW Z a0 consts_1) (z0 : Int32) (S0 : Sta Z Z.heap "java/lang/String" "COMPACT_STRINGS" "Z" (.int z0)) (hz0 : ¬ z0 = 0) (b d : Addr) (kb kd : ClassId) (dv : Value) (c0 c1 c2 c3 : Int32) (h0 : Heap) (n0 : Nat) (A0 : Arv Z h0 b kb .char (4 : Int32) [(.int c0), (.int c1), (.int c2), (.int c3)] dv) (A1 : Arv Z h0 d kd .byte (4 : Int32) [(.int (0 : Int32)), (.int (0 : Int32)), (.int (0 : Int32)), (.int (0 : Int32))] (.int (0 : Int32))) (hk : (255 : Int32) < c1) (hj0 : ¬ (255 : Int32) < c0) :
    Ct l Z consts_1 [] (⟨"java/lang/StringUTF16", "compress", "([CI[BII)I"⟩ : MethodName) jdk_52_method_21_code 7 (some .int) ({ frames := 0, cells := 0, slots := 0, locals := 0 } : Room) #[(.ref b), (.int (0 : Int32)), (.ref d), (.int (0 : Int32)), (.int (4 : Int32))] h0 n0 [d] (fun v _ => v = some (.int (1 : Int32))) := by
  have w : ∀ {d : Jvm.Cond} (i : Nat), tables_1[i]? = some d → d.before a0 Z = true := fun i q => hw _ (List.mem_of_getElem? q)
  refine Ct.enter (plainFor_of_name pn_2) hEL ?_
  intro p e sS m below meth c T0 hby hml0 hret hlk hnm hs0 X0
  have hml : c.maxLocals = 7 := hml0
  have D : ∀ {pc : Nat} {r : Except DecodeError (Instr × Nat)}, decode jdk_52_method_21_code pc = r → decode c.code pc = r := fun q => hb hby q
  rw [show entryFrame m #[(.ref b), (.int (0 : Int32)), (.ref d), (.int (0 : Int32)), (.int (4 : Int32))] 7 = mkF m 0 #[.val (.ref b), .val (.int (0 : Int32)), .val (.ref d), .val (.int (0 : Int32)), .val (.int (4 : Int32)), .unset, .unset] [] from by first | (simp [entryFrame, mkF, argsToLocals, Value.category]; done) | rfl]
  refine X0.iconst (x := (0 : Int32)) (D d8_0) rfl ?_
  refine X0.istore #[.val (.ref b), .val (.int (0 : Int32)), .val (.ref d), .val (.int (0 : Int32)), .val (.int (4 : Int32)), .val (.int (0 : Int32)), .unset] (D d8_1) rfl ?_
  refine X0.iload (x := (0 : Int32)) (D d8_3) rfl ?_
  refine X0.iload (x := (4 : Int32)) (D d8_5) rfl ?_
  refine X0.icmp_ge 44 (D d8_7) ⟨by decide, by decide⟩ (fun hc753 => absurd hc753 (by decide)) (fun hc753 => ?_)
  refine X0.aloadN (x := (.ref b)) (D d8_10) rfl rfl ?_
  refine X0.iloadN (x := (0 : Int32)) (D d8_11) rfl ?_
  show Goes p.tables e below _ (T0.setTop (mkF m 12 #[.val (.ref b), .val (.int (0 : Int32)), .val (.ref d), .val (.int (0 : Int32)), .val (.int (4 : Int32)), .val (.int (0 : Int32)), .unset] [(.int (0 : Int32)), (.ref b)]))
  refine X0.caload (v := (.int c0)) A0 ⟨by decide, by decide⟩ rfl (D d8_12) ?_
  refine X0.istore #[.val (.ref b), .val (.int (0 : Int32)), .val (.ref d), .val (.int (0 : Int32)), .val (.int (4 : Int32)), .val (.int (0 : Int32)), .val (.int c0)] (D d8_13) rfl ?_
  refine X0.iload (x := c0) (D d8_15) rfl ?_
  refine X0.sipush (x := (255 : Int32)) (D d8_17) rfl ?_
  refine X0.icmp_le 26 (D d8_20) ⟨by decide, by decide⟩ (fun hn754 => ?_) (fun hc => (hj0 hc).elim)
  refine X0.aloadN (x := (.ref d)) (D d8_26) rfl rfl ?_
  refine X0.iloadN (x := (0 : Int32)) (D d8_27) rfl ?_
  refine X0.iload (x := c0) (D d8_28) rfl ?_
  refine X0.i2b (D d8_30) ?_
  show Goes p.tables e below _ (T0.setTop (mkF m 31 #[.val (.ref b), .val (.int (0 : Int32)), .val (.ref d), .val (.int (0 : Int32)), .val (.int (4 : Int32)), .val (.int (0 : Int32)), .val (.int c0)] [(.int (StrChars.lo8 c0)), (.int (0 : Int32)), (.ref d)]))
  refine X0.bastore A1 ⟨by decide, by decide⟩ 0 rfl (leb rfl) (by simp) (D d8_31) ?_
  intro T755 h756 X757 W758 A759
  have F760 := A0.other W758 (arvTy A0 A1 (by decide))
  have F761 : Arv Z h756 d kd .byte (4 : Int32) [(.int (StrChars.lo8 c0)), (.int (0 : Int32)), (.int (0 : Int32)), (.int (0 : Int32))] (.int (0 : Int32)) := by rw [nar_lo8 c0] at A759; exact A759
  refine X757.iinc #[.val (.ref b), .val (.int (1 : Int32)), .val (.ref d), .val (.int (0 : Int32)), .val (.int (4 : Int32)), .val (.int (0 : Int32)), .val (.int c0)] (D d8_32) rfl rfl ?_
  refine X757.iinc #[.val (.ref b), .val (.int (1 : Int32)), .val (.ref d), .val (.int (1 : Int32)), .val (.int (4 : Int32)), .val (.int (0 : Int32)), .val (.int c0)] (D d8_35) rfl rfl ?_
  refine X757.iinc #[.val (.ref b), .val (.int (1 : Int32)), .val (.ref d), .val (.int (1 : Int32)), .val (.int (4 : Int32)), .val (.int (1 : Int32)), .val (.int c0)] (D d8_38) rfl rfl ?_
  refine X757.goto 3 (D d8_41) ⟨by decide, by decide⟩ ?_
  refine X757.iload (x := (1 : Int32)) (D d8_3) rfl ?_
  refine X757.iload (x := (4 : Int32)) (D d8_5) rfl ?_
  refine X757.icmp_ge 44 (D d8_7) ⟨by decide, by decide⟩ (fun hc762 => absurd hc762 (by decide)) (fun hc762 => ?_)
  refine X757.aloadN (x := (.ref b)) (D d8_10) rfl rfl ?_
  refine X757.iloadN (x := (1 : Int32)) (D d8_11) rfl ?_
  show Goes p.tables e below _ (T755.setTop (mkF m 12 #[.val (.ref b), .val (.int (1 : Int32)), .val (.ref d), .val (.int (1 : Int32)), .val (.int (4 : Int32)), .val (.int (1 : Int32)), .val (.int c0)] [(.int (1 : Int32)), (.ref b)]))
  refine X757.caload (v := (.int c1)) F760 ⟨by decide, by decide⟩ rfl (D d8_12) ?_
  refine X757.istore #[.val (.ref b), .val (.int (1 : Int32)), .val (.ref d), .val (.int (1 : Int32)), .val (.int (4 : Int32)), .val (.int (1 : Int32)), .val (.int c1)] (D d8_13) rfl ?_
  refine X757.iload (x := c1) (D d8_15) rfl ?_
  refine X757.sipush (x := (255 : Int32)) (D d8_17) rfl ?_
  refine X757.icmp_le 26 (D d8_20) ⟨by decide, by decide⟩ (fun hc => (hc hk).elim) (fun hn763 => ?_)
  refine X757.iload (x := (1 : Int32)) (D d8_23) rfl ?_
  exact X757.retI hret hlk (D d8_25) (by decide) (by decide) (rfl)
set_option maxRecDepth 65536 in
set_option maxHeartbeats 40000000 in
theorem ctC5_4_2 (l : Launch) (Z : State) (a0 : Array Value) (hw : ∀ d ∈ tables_1, d.before a0 Z = true) (hEL : EW Z a0 consts_1) (z0 : Int32) (S0 : Sta Z Z.heap "java/lang/String" "COMPACT_STRINGS" "Z" (.int z0)) (hz0 : ¬ z0 = 0) (b d : Addr) (kb kd : ClassId) (dv : Value) (c0 c1 c2 c3 : Int32) (h0 : Heap) (n0 : Nat) (A0 : Arv Z h0 b kb .char (4 : Int32) [(.int c0), (.int c1), (.int c2), (.int c3)] dv) (A1 : Arv Z h0 d kd .byte (4 : Int32) [(.int (0 : Int32)), (.int (0 : Int32)), (.int (0 : Int32)), (.int (0 : Int32))] (.int (0 : Int32))) (hk : (255 : Int32) < c2) (hj0 : ¬ (255 : Int32) < c0) (hj1 : ¬ (255 : Int32) < c1) :
    Ct l Z consts_1 [] (⟨"java/lang/StringUTF16", "compress", "([CI[BII)I"⟩ : MethodName) jdk_52_method_21_code 7 (some .int) ({ frames := 0, cells := 0, slots := 0, locals := 0 } : Room) #[(.ref b), (.int (0 : Int32)), (.ref d), (.int (0 : Int32)), (.int (4 : Int32))] h0 n0 [d] (fun v _ => v = some (.int (2 : Int32))) := by
  have w : ∀ {d : Jvm.Cond} (i : Nat), tables_1[i]? = some d → d.before a0 Z = true := fun i q => hw _ (List.mem_of_getElem? q)
  refine Ct.enter (plainFor_of_name pn_2) hEL ?_
  intro p e sS m below meth c T0 hby hml0 hret hlk hnm hs0 X0
  have hml : c.maxLocals = 7 := hml0
  have D : ∀ {pc : Nat} {r : Except DecodeError (Instr × Nat)}, decode jdk_52_method_21_code pc = r → decode c.code pc = r := fun q => hb hby q
  rw [show entryFrame m #[(.ref b), (.int (0 : Int32)), (.ref d), (.int (0 : Int32)), (.int (4 : Int32))] 7 = mkF m 0 #[.val (.ref b), .val (.int (0 : Int32)), .val (.ref d), .val (.int (0 : Int32)), .val (.int (4 : Int32)), .unset, .unset] [] from by first | (simp [entryFrame, mkF, argsToLocals, Value.category]; done) | rfl]
  refine X0.iconst (x := (0 : Int32)) (D d8_0) rfl ?_
  refine X0.istore #[.val (.ref b), .val (.int (0 : Int32)), .val (.ref d), .val (.int (0 : Int32)), .val (.int (4 : Int32)), .val (.int (0 : Int32)), .unset] (D d8_1) rfl ?_
  refine X0.iload (x := (0 : Int32)) (D d8_3) rfl ?_
  refine X0.iload (x := (4 : Int32)) (D d8_5) rfl ?_
  refine X0.icmp_ge 44 (D d8_7) ⟨by decide, by decide⟩ (fun hc764 => absurd hc764 (by decide)) (fun hc764 => ?_)
  refine X0.aloadN (x := (.ref b)) (D d8_10) rfl rfl ?_
  refine X0.iloadN (x := (0 : Int32)) (D d8_11) rfl ?_
  show Goes p.tables e below _ (T0.setTop (mkF m 12 #[.val (.ref b), .val (.int (0 : Int32)), .val (.ref d), .val (.int (0 : Int32)), .val (.int (4 : Int32)), .val (.int (0 : Int32)), .unset] [(.int (0 : Int32)), (.ref b)]))
  refine X0.caload (v := (.int c0)) A0 ⟨by decide, by decide⟩ rfl (D d8_12) ?_
  refine X0.istore #[.val (.ref b), .val (.int (0 : Int32)), .val (.ref d), .val (.int (0 : Int32)), .val (.int (4 : Int32)), .val (.int (0 : Int32)), .val (.int c0)] (D d8_13) rfl ?_
  refine X0.iload (x := c0) (D d8_15) rfl ?_
  refine X0.sipush (x := (255 : Int32)) (D d8_17) rfl ?_
  refine X0.icmp_le 26 (D d8_20) ⟨by decide, by decide⟩ (fun hn765 => ?_) (fun hc => (hj0 hc).elim)
  refine X0.aloadN (x := (.ref d)) (D d8_26) rfl rfl ?_
  refine X0.iloadN (x := (0 : Int32)) (D d8_27) rfl ?_
  refine X0.iload (x := c0) (D d8_28) rfl ?_
  refine X0.i2b (D d8_30) ?_
  show Goes p.tables e below _ (T0.setTop (mkF m 31 #[.val (.ref b), .val (.int (0 : Int32)), .val (.ref d), .val (.int (0 : Int32)), .val (.int (4 : Int32)), .val (.int (0 : Int32)), .val (.int c0)] [(.int (StrChars.lo8 c0)), (.int (0 : Int32)), (.ref d)]))
  refine X0.bastore A1 ⟨by decide, by decide⟩ 0 rfl (leb rfl) (by simp) (D d8_31) ?_
  intro T766 h767 X768 W769 A770
  have F771 := A0.other W769 (arvTy A0 A1 (by decide))
  have F772 : Arv Z h767 d kd .byte (4 : Int32) [(.int (StrChars.lo8 c0)), (.int (0 : Int32)), (.int (0 : Int32)), (.int (0 : Int32))] (.int (0 : Int32)) := by rw [nar_lo8 c0] at A770; exact A770
  refine X768.iinc #[.val (.ref b), .val (.int (1 : Int32)), .val (.ref d), .val (.int (0 : Int32)), .val (.int (4 : Int32)), .val (.int (0 : Int32)), .val (.int c0)] (D d8_32) rfl rfl ?_
  refine X768.iinc #[.val (.ref b), .val (.int (1 : Int32)), .val (.ref d), .val (.int (1 : Int32)), .val (.int (4 : Int32)), .val (.int (0 : Int32)), .val (.int c0)] (D d8_35) rfl rfl ?_
  refine X768.iinc #[.val (.ref b), .val (.int (1 : Int32)), .val (.ref d), .val (.int (1 : Int32)), .val (.int (4 : Int32)), .val (.int (1 : Int32)), .val (.int c0)] (D d8_38) rfl rfl ?_
  refine X768.goto 3 (D d8_41) ⟨by decide, by decide⟩ ?_
  refine X768.iload (x := (1 : Int32)) (D d8_3) rfl ?_
  refine X768.iload (x := (4 : Int32)) (D d8_5) rfl ?_
  refine X768.icmp_ge 44 (D d8_7) ⟨by decide, by decide⟩ (fun hc773 => absurd hc773 (by decide)) (fun hc773 => ?_)
  refine X768.aloadN (x := (.ref b)) (D d8_10) rfl rfl ?_
  refine X768.iloadN (x := (1 : Int32)) (D d8_11) rfl ?_
  show Goes p.tables e below _ (T766.setTop (mkF m 12 #[.val (.ref b), .val (.int (1 : Int32)), .val (.ref d), .val (.int (1 : Int32)), .val (.int (4 : Int32)), .val (.int (1 : Int32)), .val (.int c0)] [(.int (1 : Int32)), (.ref b)]))
  refine X768.caload (v := (.int c1)) F771 ⟨by decide, by decide⟩ rfl (D d8_12) ?_
  refine X768.istore #[.val (.ref b), .val (.int (1 : Int32)), .val (.ref d), .val (.int (1 : Int32)), .val (.int (4 : Int32)), .val (.int (1 : Int32)), .val (.int c1)] (D d8_13) rfl ?_
  refine X768.iload (x := c1) (D d8_15) rfl ?_
  refine X768.sipush (x := (255 : Int32)) (D d8_17) rfl ?_
  refine X768.icmp_le 26 (D d8_20) ⟨by decide, by decide⟩ (fun hn774 => ?_) (fun hc => (hj1 hc).elim)
  refine X768.aloadN (x := (.ref d)) (D d8_26) rfl rfl ?_
  refine X768.iloadN (x := (1 : Int32)) (D d8_27) rfl ?_
  refine X768.iload (x := c1) (D d8_28) rfl ?_
  refine X768.i2b (D d8_30) ?_
  show Goes p.tables e below _ (T766.setTop (mkF m 31 #[.val (.ref b), .val (.int (1 : Int32)), .val (.ref d), .val (.int (1 : Int32)), .val (.int (4 : Int32)), .val (.int (1 : Int32)), .val (.int c1)] [(.int (StrChars.lo8 c1)), (.int (1 : Int32)), (.ref d)]))
  refine X768.bastore F772 ⟨by decide, by decide⟩ 1 rfl (leb rfl) (by simp) (D d8_31) ?_
  intro T775 h776 X777 W778 A779
  have F780 := F771.other W778 (arvTy F771 F772 (by decide))
  have F781 : Arv Z h776 d kd .byte (4 : Int32) [(.int (StrChars.lo8 c0)), (.int (StrChars.lo8 c1)), (.int (0 : Int32)), (.int (0 : Int32))] (.int (0 : Int32)) := by rw [nar_lo8 c1] at A779; exact A779
  refine X777.iinc #[.val (.ref b), .val (.int (2 : Int32)), .val (.ref d), .val (.int (1 : Int32)), .val (.int (4 : Int32)), .val (.int (1 : Int32)), .val (.int c1)] (D d8_32) rfl rfl ?_
  refine X777.iinc #[.val (.ref b), .val (.int (2 : Int32)), .val (.ref d), .val (.int (2 : Int32)), .val (.int (4 : Int32)), .val (.int (1 : Int32)), .val (.int c1)] (D d8_35) rfl rfl ?_
  refine X777.iinc #[.val (.ref b), .val (.int (2 : Int32)), .val (.ref d), .val (.int (2 : Int32)), .val (.int (4 : Int32)), .val (.int (2 : Int32)), .val (.int c1)] (D d8_38) rfl rfl ?_
  refine X777.goto 3 (D d8_41) ⟨by decide, by decide⟩ ?_
  refine X777.iload (x := (2 : Int32)) (D d8_3) rfl ?_
  refine X777.iload (x := (4 : Int32)) (D d8_5) rfl ?_
  refine X777.icmp_ge 44 (D d8_7) ⟨by decide, by decide⟩ (fun hc782 => absurd hc782 (by decide)) (fun hc782 => ?_)
  refine X777.aloadN (x := (.ref b)) (D d8_10) rfl rfl ?_
  refine X777.iloadN (x := (2 : Int32)) (D d8_11) rfl ?_
  show Goes p.tables e below _ (T775.setTop (mkF m 12 #[.val (.ref b), .val (.int (2 : Int32)), .val (.ref d), .val (.int (2 : Int32)), .val (.int (4 : Int32)), .val (.int (2 : Int32)), .val (.int c1)] [(.int (2 : Int32)), (.ref b)]))
  refine X777.caload (v := (.int c2)) F780 ⟨by decide, by decide⟩ rfl (D d8_12) ?_
  refine X777.istore #[.val (.ref b), .val (.int (2 : Int32)), .val (.ref d), .val (.int (2 : Int32)), .val (.int (4 : Int32)), .val (.int (2 : Int32)), .val (.int c2)] (D d8_13) rfl ?_
  refine X777.iload (x := c2) (D d8_15) rfl ?_
  refine X777.sipush (x := (255 : Int32)) (D d8_17) rfl ?_
  refine X777.icmp_le 26 (D d8_20) ⟨by decide, by decide⟩ (fun hc => (hc hk).elim) (fun hn783 => ?_)
  refine X777.iload (x := (2 : Int32)) (D d8_23) rfl ?_
  exact X777.retI hret hlk (D d8_25) (by decide) (by decide) (rfl)
set_option maxRecDepth 65536 in
set_option maxHeartbeats 40000000 in
theorem ctC5_4_3 (l : Launch) (Z : State) (a0 : Array Value) (hw : ∀ d ∈ tables_1, d.before a0 Z = true) (hEL : EW Z a0 consts_1) (z0 : Int32) (S0 : Sta Z Z.heap "java/lang/String" "COMPACT_STRINGS" "Z" (.int z0)) (hz0 : ¬ z0 = 0) (b d : Addr) (kb kd : ClassId) (dv : Value) (c0 c1 c2 c3 : Int32) (h0 : Heap) (n0 : Nat) (A0 : Arv Z h0 b kb .char (4 : Int32) [(.int c0), (.int c1), (.int c2), (.int c3)] dv) (A1 : Arv Z h0 d kd .byte (4 : Int32) [(.int (0 : Int32)), (.int (0 : Int32)), (.int (0 : Int32)), (.int (0 : Int32))] (.int (0 : Int32))) (hk : (255 : Int32) < c3) (hj0 : ¬ (255 : Int32) < c0) (hj1 : ¬ (255 : Int32) < c1) (hj2 : ¬ (255 : Int32) < c2) :
    Ct l Z consts_1 [] (⟨"java/lang/StringUTF16", "compress", "([CI[BII)I"⟩ : MethodName) jdk_52_method_21_code 7 (some .int) ({ frames := 0, cells := 0, slots := 0, locals := 0 } : Room) #[(.ref b), (.int (0 : Int32)), (.ref d), (.int (0 : Int32)), (.int (4 : Int32))] h0 n0 [d] (fun v _ => v = some (.int (3 : Int32))) := by
  have w : ∀ {d : Jvm.Cond} (i : Nat), tables_1[i]? = some d → d.before a0 Z = true := fun i q => hw _ (List.mem_of_getElem? q)
  refine Ct.enter (plainFor_of_name pn_2) hEL ?_
  intro p e sS m below meth c T0 hby hml0 hret hlk hnm hs0 X0
  have hml : c.maxLocals = 7 := hml0
  have D : ∀ {pc : Nat} {r : Except DecodeError (Instr × Nat)}, decode jdk_52_method_21_code pc = r → decode c.code pc = r := fun q => hb hby q
  rw [show entryFrame m #[(.ref b), (.int (0 : Int32)), (.ref d), (.int (0 : Int32)), (.int (4 : Int32))] 7 = mkF m 0 #[.val (.ref b), .val (.int (0 : Int32)), .val (.ref d), .val (.int (0 : Int32)), .val (.int (4 : Int32)), .unset, .unset] [] from by first | (simp [entryFrame, mkF, argsToLocals, Value.category]; done) | rfl]
  refine X0.iconst (x := (0 : Int32)) (D d8_0) rfl ?_
  refine X0.istore #[.val (.ref b), .val (.int (0 : Int32)), .val (.ref d), .val (.int (0 : Int32)), .val (.int (4 : Int32)), .val (.int (0 : Int32)), .unset] (D d8_1) rfl ?_
  refine X0.iload (x := (0 : Int32)) (D d8_3) rfl ?_
  refine X0.iload (x := (4 : Int32)) (D d8_5) rfl ?_
  refine X0.icmp_ge 44 (D d8_7) ⟨by decide, by decide⟩ (fun hc784 => absurd hc784 (by decide)) (fun hc784 => ?_)
  refine X0.aloadN (x := (.ref b)) (D d8_10) rfl rfl ?_
  refine X0.iloadN (x := (0 : Int32)) (D d8_11) rfl ?_
  show Goes p.tables e below _ (T0.setTop (mkF m 12 #[.val (.ref b), .val (.int (0 : Int32)), .val (.ref d), .val (.int (0 : Int32)), .val (.int (4 : Int32)), .val (.int (0 : Int32)), .unset] [(.int (0 : Int32)), (.ref b)]))
  refine X0.caload (v := (.int c0)) A0 ⟨by decide, by decide⟩ rfl (D d8_12) ?_
  refine X0.istore #[.val (.ref b), .val (.int (0 : Int32)), .val (.ref d), .val (.int (0 : Int32)), .val (.int (4 : Int32)), .val (.int (0 : Int32)), .val (.int c0)] (D d8_13) rfl ?_
  refine X0.iload (x := c0) (D d8_15) rfl ?_
  refine X0.sipush (x := (255 : Int32)) (D d8_17) rfl ?_
  refine X0.icmp_le 26 (D d8_20) ⟨by decide, by decide⟩ (fun hn785 => ?_) (fun hc => (hj0 hc).elim)
  refine X0.aloadN (x := (.ref d)) (D d8_26) rfl rfl ?_
  refine X0.iloadN (x := (0 : Int32)) (D d8_27) rfl ?_
  refine X0.iload (x := c0) (D d8_28) rfl ?_
  refine X0.i2b (D d8_30) ?_
  show Goes p.tables e below _ (T0.setTop (mkF m 31 #[.val (.ref b), .val (.int (0 : Int32)), .val (.ref d), .val (.int (0 : Int32)), .val (.int (4 : Int32)), .val (.int (0 : Int32)), .val (.int c0)] [(.int (StrChars.lo8 c0)), (.int (0 : Int32)), (.ref d)]))
  refine X0.bastore A1 ⟨by decide, by decide⟩ 0 rfl (leb rfl) (by simp) (D d8_31) ?_
  intro T786 h787 X788 W789 A790
  have F791 := A0.other W789 (arvTy A0 A1 (by decide))
  have F792 : Arv Z h787 d kd .byte (4 : Int32) [(.int (StrChars.lo8 c0)), (.int (0 : Int32)), (.int (0 : Int32)), (.int (0 : Int32))] (.int (0 : Int32)) := by rw [nar_lo8 c0] at A790; exact A790
  refine X788.iinc #[.val (.ref b), .val (.int (1 : Int32)), .val (.ref d), .val (.int (0 : Int32)), .val (.int (4 : Int32)), .val (.int (0 : Int32)), .val (.int c0)] (D d8_32) rfl rfl ?_
  refine X788.iinc #[.val (.ref b), .val (.int (1 : Int32)), .val (.ref d), .val (.int (1 : Int32)), .val (.int (4 : Int32)), .val (.int (0 : Int32)), .val (.int c0)] (D d8_35) rfl rfl ?_
  refine X788.iinc #[.val (.ref b), .val (.int (1 : Int32)), .val (.ref d), .val (.int (1 : Int32)), .val (.int (4 : Int32)), .val (.int (1 : Int32)), .val (.int c0)] (D d8_38) rfl rfl ?_
  refine X788.goto 3 (D d8_41) ⟨by decide, by decide⟩ ?_
  refine X788.iload (x := (1 : Int32)) (D d8_3) rfl ?_
  refine X788.iload (x := (4 : Int32)) (D d8_5) rfl ?_
  refine X788.icmp_ge 44 (D d8_7) ⟨by decide, by decide⟩ (fun hc793 => absurd hc793 (by decide)) (fun hc793 => ?_)
  refine X788.aloadN (x := (.ref b)) (D d8_10) rfl rfl ?_
  refine X788.iloadN (x := (1 : Int32)) (D d8_11) rfl ?_
  show Goes p.tables e below _ (T786.setTop (mkF m 12 #[.val (.ref b), .val (.int (1 : Int32)), .val (.ref d), .val (.int (1 : Int32)), .val (.int (4 : Int32)), .val (.int (1 : Int32)), .val (.int c0)] [(.int (1 : Int32)), (.ref b)]))
  refine X788.caload (v := (.int c1)) F791 ⟨by decide, by decide⟩ rfl (D d8_12) ?_
  refine X788.istore #[.val (.ref b), .val (.int (1 : Int32)), .val (.ref d), .val (.int (1 : Int32)), .val (.int (4 : Int32)), .val (.int (1 : Int32)), .val (.int c1)] (D d8_13) rfl ?_
  refine X788.iload (x := c1) (D d8_15) rfl ?_
  refine X788.sipush (x := (255 : Int32)) (D d8_17) rfl ?_
  refine X788.icmp_le 26 (D d8_20) ⟨by decide, by decide⟩ (fun hn794 => ?_) (fun hc => (hj1 hc).elim)
  refine X788.aloadN (x := (.ref d)) (D d8_26) rfl rfl ?_
  refine X788.iloadN (x := (1 : Int32)) (D d8_27) rfl ?_
  refine X788.iload (x := c1) (D d8_28) rfl ?_
  refine X788.i2b (D d8_30) ?_
  show Goes p.tables e below _ (T786.setTop (mkF m 31 #[.val (.ref b), .val (.int (1 : Int32)), .val (.ref d), .val (.int (1 : Int32)), .val (.int (4 : Int32)), .val (.int (1 : Int32)), .val (.int c1)] [(.int (StrChars.lo8 c1)), (.int (1 : Int32)), (.ref d)]))
  refine X788.bastore F792 ⟨by decide, by decide⟩ 1 rfl (leb rfl) (by simp) (D d8_31) ?_
  intro T795 h796 X797 W798 A799
  have F800 := F791.other W798 (arvTy F791 F792 (by decide))
  have F801 : Arv Z h796 d kd .byte (4 : Int32) [(.int (StrChars.lo8 c0)), (.int (StrChars.lo8 c1)), (.int (0 : Int32)), (.int (0 : Int32))] (.int (0 : Int32)) := by rw [nar_lo8 c1] at A799; exact A799
  refine X797.iinc #[.val (.ref b), .val (.int (2 : Int32)), .val (.ref d), .val (.int (1 : Int32)), .val (.int (4 : Int32)), .val (.int (1 : Int32)), .val (.int c1)] (D d8_32) rfl rfl ?_
  refine X797.iinc #[.val (.ref b), .val (.int (2 : Int32)), .val (.ref d), .val (.int (2 : Int32)), .val (.int (4 : Int32)), .val (.int (1 : Int32)), .val (.int c1)] (D d8_35) rfl rfl ?_
  refine X797.iinc #[.val (.ref b), .val (.int (2 : Int32)), .val (.ref d), .val (.int (2 : Int32)), .val (.int (4 : Int32)), .val (.int (2 : Int32)), .val (.int c1)] (D d8_38) rfl rfl ?_
  refine X797.goto 3 (D d8_41) ⟨by decide, by decide⟩ ?_
  refine X797.iload (x := (2 : Int32)) (D d8_3) rfl ?_
  refine X797.iload (x := (4 : Int32)) (D d8_5) rfl ?_
  refine X797.icmp_ge 44 (D d8_7) ⟨by decide, by decide⟩ (fun hc802 => absurd hc802 (by decide)) (fun hc802 => ?_)
  refine X797.aloadN (x := (.ref b)) (D d8_10) rfl rfl ?_
  refine X797.iloadN (x := (2 : Int32)) (D d8_11) rfl ?_
  show Goes p.tables e below _ (T795.setTop (mkF m 12 #[.val (.ref b), .val (.int (2 : Int32)), .val (.ref d), .val (.int (2 : Int32)), .val (.int (4 : Int32)), .val (.int (2 : Int32)), .val (.int c1)] [(.int (2 : Int32)), (.ref b)]))
  refine X797.caload (v := (.int c2)) F800 ⟨by decide, by decide⟩ rfl (D d8_12) ?_
  refine X797.istore #[.val (.ref b), .val (.int (2 : Int32)), .val (.ref d), .val (.int (2 : Int32)), .val (.int (4 : Int32)), .val (.int (2 : Int32)), .val (.int c2)] (D d8_13) rfl ?_
  refine X797.iload (x := c2) (D d8_15) rfl ?_
  refine X797.sipush (x := (255 : Int32)) (D d8_17) rfl ?_
  refine X797.icmp_le 26 (D d8_20) ⟨by decide, by decide⟩ (fun hn803 => ?_) (fun hc => (hj2 hc).elim)
  refine X797.aloadN (x := (.ref d)) (D d8_26) rfl rfl ?_
  refine X797.iloadN (x := (2 : Int32)) (D d8_27) rfl ?_
  refine X797.iload (x := c2) (D d8_28) rfl ?_
  refine X797.i2b (D d8_30) ?_
  show Goes p.tables e below _ (T795.setTop (mkF m 31 #[.val (.ref b), .val (.int (2 : Int32)), .val (.ref d), .val (.int (2 : Int32)), .val (.int (4 : Int32)), .val (.int (2 : Int32)), .val (.int c2)] [(.int (StrChars.lo8 c2)), (.int (2 : Int32)), (.ref d)]))
  refine X797.bastore F801 ⟨by decide, by decide⟩ 2 rfl (leb rfl) (by simp) (D d8_31) ?_
  intro T804 h805 X806 W807 A808
  have F809 := F800.other W807 (arvTy F800 F801 (by decide))
  have F810 : Arv Z h805 d kd .byte (4 : Int32) [(.int (StrChars.lo8 c0)), (.int (StrChars.lo8 c1)), (.int (StrChars.lo8 c2)), (.int (0 : Int32))] (.int (0 : Int32)) := by rw [nar_lo8 c2] at A808; exact A808
  refine X806.iinc #[.val (.ref b), .val (.int (3 : Int32)), .val (.ref d), .val (.int (2 : Int32)), .val (.int (4 : Int32)), .val (.int (2 : Int32)), .val (.int c2)] (D d8_32) rfl rfl ?_
  refine X806.iinc #[.val (.ref b), .val (.int (3 : Int32)), .val (.ref d), .val (.int (3 : Int32)), .val (.int (4 : Int32)), .val (.int (2 : Int32)), .val (.int c2)] (D d8_35) rfl rfl ?_
  refine X806.iinc #[.val (.ref b), .val (.int (3 : Int32)), .val (.ref d), .val (.int (3 : Int32)), .val (.int (4 : Int32)), .val (.int (3 : Int32)), .val (.int c2)] (D d8_38) rfl rfl ?_
  refine X806.goto 3 (D d8_41) ⟨by decide, by decide⟩ ?_
  refine X806.iload (x := (3 : Int32)) (D d8_3) rfl ?_
  refine X806.iload (x := (4 : Int32)) (D d8_5) rfl ?_
  refine X806.icmp_ge 44 (D d8_7) ⟨by decide, by decide⟩ (fun hc811 => absurd hc811 (by decide)) (fun hc811 => ?_)
  refine X806.aloadN (x := (.ref b)) (D d8_10) rfl rfl ?_
  refine X806.iloadN (x := (3 : Int32)) (D d8_11) rfl ?_
  show Goes p.tables e below _ (T804.setTop (mkF m 12 #[.val (.ref b), .val (.int (3 : Int32)), .val (.ref d), .val (.int (3 : Int32)), .val (.int (4 : Int32)), .val (.int (3 : Int32)), .val (.int c2)] [(.int (3 : Int32)), (.ref b)]))
  refine X806.caload (v := (.int c3)) F809 ⟨by decide, by decide⟩ rfl (D d8_12) ?_
  refine X806.istore #[.val (.ref b), .val (.int (3 : Int32)), .val (.ref d), .val (.int (3 : Int32)), .val (.int (4 : Int32)), .val (.int (3 : Int32)), .val (.int c3)] (D d8_13) rfl ?_
  refine X806.iload (x := c3) (D d8_15) rfl ?_
  refine X806.sipush (x := (255 : Int32)) (D d8_17) rfl ?_
  refine X806.icmp_le 26 (D d8_20) ⟨by decide, by decide⟩ (fun hc => (hc hk).elim) (fun hn812 => ?_)
  refine X806.iload (x := (3 : Int32)) (D d8_23) rfl ?_
  exact X806.retI hret hlk (D d8_25) (by decide) (by decide) (rfl)
set_option maxRecDepth 65536 in
set_option maxHeartbeats 40000000 in
theorem ctNL4 (l : Launch) (Z : State) (a0 : Array Value) (hw : ∀ d ∈ tables_1, d.before a0 Z = true) (hEL : EW Z a0 consts_1) (z0 : Int32) (S0 : Sta Z Z.heap "java/lang/String" "COMPACT_STRINGS" "Z" (.int z0)) (hz0 : ¬ z0 = 0)  (h0 : Heap) (n0 : Nat)  :
    Ct l Z consts_1 [] (⟨"java/lang/StringUTF16", "newBytesLength", "(I)I"⟩ : MethodName) jdk_52_method_3_code 1 (some .int) ({ frames := 0, cells := 0, slots := 0, locals := 0 } : Room) #[(.int (4 : Int32))] h0 n0 [] (fun v _ => v = some (.int (8 : Int32))) := by
  have w : ∀ {d : Jvm.Cond} (i : Nat), tables_1[i]? = some d → d.before a0 Z = true := fun i q => hw _ (List.mem_of_getElem? q)
  refine Ct.enter (plainFor_of_name pn_2) hEL ?_
  intro p e sS m below meth c T0 hby hml0 hret hlk hnm hs0 X0
  have hml : c.maxLocals = 1 := hml0
  have D : ∀ {pc : Nat} {r : Except DecodeError (Instr × Nat)}, decode jdk_52_method_3_code pc = r → decode c.code pc = r := fun q => hb hby q
  rw [show entryFrame m #[(.int (4 : Int32))] 1 = mkF m 0 #[.val (.int (4 : Int32))] [] from by first | (simp [entryFrame, mkF, argsToLocals, Value.category]; done) | rfl]
  refine X0.iloadN (x := (4 : Int32)) (D d20_0) rfl ?_
  refine X0.if_ge 12 (D d20_1) ⟨by decide, by decide⟩ (fun hc813 => ?_) (fun hc813 => absurd hc813 (by decide))
  refine X0.iloadN (x := (4 : Int32)) (D d20_12) rfl ?_
  refine X0.ldcI (w 94 rfl) (D d20_13) ?_
  refine X0.icmp_lt 55 (D d20_15) ⟨by decide, by decide⟩ (fun hc814 => ?_) (fun hc814 => absurd hc814 (by decide))
  refine X0.iloadN (x := (4 : Int32)) (D d20_55) rfl ?_
  refine X0.iconst (x := (1 : Int32)) (D d20_56) rfl ?_
  refine X0.ishl (D d20_57) ?_
  show Goes p.tables e below _ (T0.setTop (mkF m 58 #[.val (.int (4 : Int32))] [(.int (8 : Int32))]))
  exact X0.retI hret hlk (D d20_58) (by decide) (by decide) (rfl)
set_option maxRecDepth 65536 in
set_option maxHeartbeats 40000000 in
theorem ctNF4 (l : Launch) (Z : State) (a0 : Array Value) (hw : ∀ d ∈ tables_1, d.before a0 Z = true) (hEL : EW Z a0 consts_1) (z0 : Int32) (S0 : Sta Z Z.heap "java/lang/String" "COMPACT_STRINGS" "Z" (.int z0)) (hz0 : ¬ z0 = 0)  (h0 : Heap) (n0 : Nat)  :
    CtF l Z consts_1 [] (⟨"java/lang/StringUTF16", "newBytesFor", "(I)[B"⟩ : MethodName) jdk_52_method_2_code 1 (some (.array .byte)) ({ frames := 1, cells := 1, slots := 8, locals := 12 } : Room) #[(.int (4 : Int32))] h0 n0 [] (fun v h F => ∃ (r : Addr) (kr : ClassId), v = some (.ref r) ∧ F = [r] ∧ Arv Z h r kr .byte (8 : Int32) [(.int (0 : Int32)), (.int (0 : Int32)), (.int (0 : Int32)), (.int (0 : Int32)), (.int (0 : Int32)), (.int (0 : Int32)), (.int (0 : Int32)), (.int (0 : Int32))] (.int (0 : Int32))) := by
  have w : ∀ {d : Jvm.Cond} (i : Nat), tables_1[i]? = some d → d.before a0 Z = true := fun i q => hw _ (List.mem_of_getElem? q)
  refine CtF.enter (plainFor_of_name pn_2) hEL ?_
  intro p e sS m below meth c T0 hby hml0 hret hlk hnm hs0 X0
  have hml : c.maxLocals = 1 := hml0
  have D : ∀ {pc : Nat} {r : Except DecodeError (Instr × Nat)}, decode jdk_52_method_2_code pc = r → decode c.code pc = r := fun q => hb hby q
  rw [show entryFrame m #[(.int (4 : Int32))] 1 = mkF m 0 #[.val (.int (4 : Int32))] [] from by first | (simp [entryFrame, mkF, argsToLocals, Value.category]; done) | rfl]
  refine X0.iloadN (x := (4 : Int32)) (D d19_0) rfl ?_
  refine X0.callsF [(.int (4 : Int32))] [] (ctNL4 l Z a0 hw hEL z0 S0 hz0 _ _).toF (w 91 rfl) (w 92 rfl) (w 42 rfl) (w 93 rfl) (by decide) (fun _ q => nomatch q) (by decide) 0 (by decide) (by decide) (by decide) (lenOf pd_2 rfl) rfl (leb rfl) (by rw [hml]; rfl) (D d19_1) ?_
  rintro T815 h816 _ _ X818 K819 hg820 ⟨rfl, rfl⟩
  show Goes p.tables e below _ (T815.setTop (mkF m 4 #[.val (.int (4 : Int32))] [(.int (8 : Int32))]))
  refine X818.newarr (w 23 rfl) (n := (8 : Int32)) (D d19_4) (by decide) 8 (by decide) (by decide) (by decide) (by decide) ?_
  intro T821 h822 b823 kb824 g825 X826 E827 A828
  have ge829 : sS.heap.size ≤ b823 := by rw [g825]; exact X818.kept.1
  have F830 : Arv Z h822 b823 kb824 .byte (8 : Int32) [(.int (0 : Int32)), (.int (0 : Int32)), (.int (0 : Int32)), (.int (0 : Int32)), (.int (0 : Int32)), (.int (0 : Int32)), (.int (0 : Int32)), (.int (0 : Int32))] (.int (0 : Int32)) := A828.pad (pad_rep [] (.int (0 : Int32)) 8)
  exact X826.retAF [b823] (fun x q => by simp only [List.mem_cons, List.not_mem_nil, or_false] at q; rcases q with rfl <;> exact ⟨by simp, by assumption⟩) hret rfl rfl hlk (D d19_6) (by decide) (by decide) (⟨_, _, rfl, rfl, F830⟩)
set_option maxRecDepth 65536 in
set_option maxHeartbeats 40000000 in
theorem ctPC4_0 (l : Launch) (Z : State) (a0 : Array Value) (hw : ∀ d ∈ tables_1, d.before a0 Z = true) (hEL : EW Z a0 consts_1) (z0 : Int32) (S0 : Sta Z Z.heap "java/lang/String" "COMPACT_STRINGS" "Z" (.int z0)) (hz0 : ¬ z0 = 0) (SA1 : Sta Z Z.heap "java/lang/StringUTF16" "$assertionsDisabled" "Z" (.int (1 : Int32))) (SH : Sta Z Z.heap "java/lang/StringUTF16" "HI_BYTE_SHIFT" "I" (.int (0 : Int32))) (SL : Sta Z Z.heap "java/lang/StringUTF16" "LO_BYTE_SHIFT" "I" (.int (8 : Int32))) (r : Addr) (kr : ClassId) (x y0 y1 y2 y3 y4 y5 y6 y7 : Int32) (h0 : Heap) (n0 : Nat) (A0 : Arv Z h0 r kr .byte (8 : Int32) [(.int y0), (.int y1), (.int y2), (.int y3), (.int y4), (.int y5), (.int y6), (.int y7)] (.int (0 : Int32))) :
    Ct l Z consts_1 [] (⟨"java/lang/StringUTF16", "putChar", "([BII)V"⟩ : MethodName) jdk_52_method_4_code 3 none ({ frames := 0, cells := 0, slots := 0, locals := 0 } : Room) #[(.ref r), (.int (0 : Int32)), (.int x)] h0 n0 [r] (fun v h => v = none ∧ Arv Z h r kr .byte (8 : Int32) [(.int (StrChars.lo8 x)), (.int (StrChars.hi8 x)), (.int y2), (.int y3), (.int y4), (.int y5), (.int y6), (.int y7)] (.int (0 : Int32))) := by
  have w : ∀ {d : Jvm.Cond} (i : Nat), tables_1[i]? = some d → d.before a0 Z = true := fun i q => hw _ (List.mem_of_getElem? q)
  refine Ct.enter (plainFor_of_name pn_2) hEL ?_
  intro p e sS m below meth c T0 hby hml0 hret hlk hnm hs0 X0
  have hml : c.maxLocals = 3 := hml0
  have D : ∀ {pc : Nat} {r : Except DecodeError (Instr × Nat)}, decode jdk_52_method_4_code pc = r → decode c.code pc = r := fun q => hb hby q
  rw [show entryFrame m #[(.ref r), (.int (0 : Int32)), (.int x)] 3 = mkF m 0 #[.val (.ref r), .val (.int (0 : Int32)), .val (.int x)] [] from by first | (simp [entryFrame, mkF, argsToLocals, Value.category]; done) | rfl]
  refine X0.gets (w 98 rfl) Via.refl (Sta.ext X0.old.2 SA1) (D d21_0) ?_
  intro T831 X832
  refine X832.if_ne 28 (D d21_3) ⟨by decide, by decide⟩ (fun hc833 => ?_) (fun hc833 => absurd hc833 (by decide))
  refine X832.iloadN (x := (0 : Int32)) (D d21_28) rfl ?_
  refine X832.iconst (x := (1 : Int32)) (D d21_29) rfl ?_
  refine X832.ishl (D d21_30) ?_
  show Goes p.tables e below _ (T831.setTop (mkF m 31 #[.val (.ref r), .val (.int (0 : Int32)), .val (.int x)] [(.int (0 : Int32))]))
  refine X832.istoreN #[.val (.ref r), .val (.int (0 : Int32)), .val (.int x)] (D d21_31) rfl ?_
  refine X832.aloadN (x := (.ref r)) (D d21_32) rfl rfl ?_
  refine X832.iloadN (x := (0 : Int32)) (D d21_33) rfl ?_
  refine X832.iinc #[.val (.ref r), .val (.int (1 : Int32)), .val (.int x)] (D d21_34) rfl rfl ?_
  refine X832.iloadN (x := x) (D d21_37) rfl ?_
  refine X832.gets (w 99 rfl) Via.refl (Sta.ext X832.old.2 SH) (D d21_38) ?_
  intro T834 X835
  refine X835.ishr (D d21_41) ?_
  refine X835.i2b (D d21_42) ?_
  show Goes p.tables e below _ (T834.setTop (mkF m 43 #[.val (.ref r), .val (.int (1 : Int32)), .val (.int x)] [(.int (StrChars.lo8 (x >>> ((0 : Int32) &&& 31)))), (.int (0 : Int32)), (.ref r)]))
  refine X835.bastore A0 ⟨by decide, by decide⟩ 0 rfl (leb rfl) (by simp) (D d21_43) ?_
  intro T836 h837 X838 W839 A840
  have F841 : Arv Z h837 r kr .byte (8 : Int32) [(.int (StrChars.lo8 x)), (.int y1), (.int y2), (.int y3), (.int y4), (.int y5), (.int y6), (.int y7)] (.int (0 : Int32)) := by rw [nar_sh0 x] at A840; exact A840
  refine X838.aloadN (x := (.ref r)) (D d21_44) rfl rfl ?_
  refine X838.iloadN (x := (1 : Int32)) (D d21_45) rfl ?_
  refine X838.iloadN (x := x) (D d21_46) rfl ?_
  refine X838.gets (w 100 rfl) Via.refl (Sta.ext X838.old.2 SL) (D d21_47) ?_
  intro T842 X843
  refine X843.ishr (D d21_50) ?_
  refine X843.i2b (D d21_51) ?_
  show Goes p.tables e below _ (T842.setTop (mkF m 52 #[.val (.ref r), .val (.int (1 : Int32)), .val (.int x)] [(.int (StrChars.lo8 (x >>> ((8 : Int32) &&& 31)))), (.int (1 : Int32)), (.ref r)]))
  refine X843.bastore F841 ⟨by decide, by decide⟩ 1 rfl (leb rfl) (by simp) (D d21_52) ?_
  intro T844 h845 X846 W847 A848
  have F849 : Arv Z h845 r kr .byte (8 : Int32) [(.int (StrChars.lo8 x)), (.int (StrChars.hi8 x)), (.int y2), (.int y3), (.int y4), (.int y5), (.int y6), (.int y7)] (.int (0 : Int32)) := by rw [nar_lo8 (x >>> ((8 : Int32) &&& 31))] at A848; exact A848
  exact X846.retn hret hlk (D d21_53) (by decide) (by decide) (⟨rfl, F849⟩)
set_option maxRecDepth 65536 in
set_option maxHeartbeats 40000000 in
theorem ctPC4_1 (l : Launch) (Z : State) (a0 : Array Value) (hw : ∀ d ∈ tables_1, d.before a0 Z = true) (hEL : EW Z a0 consts_1) (z0 : Int32) (S0 : Sta Z Z.heap "java/lang/String" "COMPACT_STRINGS" "Z" (.int z0)) (hz0 : ¬ z0 = 0) (SA1 : Sta Z Z.heap "java/lang/StringUTF16" "$assertionsDisabled" "Z" (.int (1 : Int32))) (SH : Sta Z Z.heap "java/lang/StringUTF16" "HI_BYTE_SHIFT" "I" (.int (0 : Int32))) (SL : Sta Z Z.heap "java/lang/StringUTF16" "LO_BYTE_SHIFT" "I" (.int (8 : Int32))) (r : Addr) (kr : ClassId) (x y0 y1 y2 y3 y4 y5 y6 y7 : Int32) (h0 : Heap) (n0 : Nat) (A0 : Arv Z h0 r kr .byte (8 : Int32) [(.int y0), (.int y1), (.int y2), (.int y3), (.int y4), (.int y5), (.int y6), (.int y7)] (.int (0 : Int32))) :
    Ct l Z consts_1 [] (⟨"java/lang/StringUTF16", "putChar", "([BII)V"⟩ : MethodName) jdk_52_method_4_code 3 none ({ frames := 0, cells := 0, slots := 0, locals := 0 } : Room) #[(.ref r), (.int (1 : Int32)), (.int x)] h0 n0 [r] (fun v h => v = none ∧ Arv Z h r kr .byte (8 : Int32) [(.int y0), (.int y1), (.int (StrChars.lo8 x)), (.int (StrChars.hi8 x)), (.int y4), (.int y5), (.int y6), (.int y7)] (.int (0 : Int32))) := by
  have w : ∀ {d : Jvm.Cond} (i : Nat), tables_1[i]? = some d → d.before a0 Z = true := fun i q => hw _ (List.mem_of_getElem? q)
  refine Ct.enter (plainFor_of_name pn_2) hEL ?_
  intro p e sS m below meth c T0 hby hml0 hret hlk hnm hs0 X0
  have hml : c.maxLocals = 3 := hml0
  have D : ∀ {pc : Nat} {r : Except DecodeError (Instr × Nat)}, decode jdk_52_method_4_code pc = r → decode c.code pc = r := fun q => hb hby q
  rw [show entryFrame m #[(.ref r), (.int (1 : Int32)), (.int x)] 3 = mkF m 0 #[.val (.ref r), .val (.int (1 : Int32)), .val (.int x)] [] from by first | (simp [entryFrame, mkF, argsToLocals, Value.category]; done) | rfl]
  refine X0.gets (w 98 rfl) Via.refl (Sta.ext X0.old.2 SA1) (D d21_0) ?_
  intro T850 X851
  refine X851.if_ne 28 (D d21_3) ⟨by decide, by decide⟩ (fun hc852 => ?_) (fun hc852 => absurd hc852 (by decide))
  refine X851.iloadN (x := (1 : Int32)) (D d21_28) rfl ?_
  refine X851.iconst (x := (1 : Int32)) (D d21_29) rfl ?_
  refine X851.ishl (D d21_30) ?_
  show Goes p.tables e below _ (T850.setTop (mkF m 31 #[.val (.ref r), .val (.int (1 : Int32)), .val (.int x)] [(.int (2 : Int32))]))
  refine X851.istoreN #[.val (.ref r), .val (.int (2 : Int32)), .val (.int x)] (D d21_31) rfl ?_
  refine X851.aloadN (x := (.ref r)) (D d21_32) rfl rfl ?_
  refine X851.iloadN (x := (2 : Int32)) (D d21_33) rfl ?_
  refine X851.iinc #[.val (.ref r), .val (.int (3 : Int32)), .val (.int x)] (D d21_34) rfl rfl ?_
  refine X851.iloadN (x := x) (D d21_37) rfl ?_
  refine X851.gets (w 99 rfl) Via.refl (Sta.ext X851.old.2 SH) (D d21_38) ?_
  intro T853 X854
  refine X854.ishr (D d21_41) ?_
  refine X854.i2b (D d21_42) ?_
  show Goes p.tables e below _ (T853.setTop (mkF m 43 #[.val (.ref r), .val (.int (3 : Int32)), .val (.int x)] [(.int (StrChars.lo8 (x >>> ((0 : Int32) &&& 31)))), (.int (2 : Int32)), (.ref r)]))
  refine X854.bastore A0 ⟨by decide, by decide⟩ 2 rfl (leb rfl) (by simp) (D d21_43) ?_
  intro T855 h856 X857 W858 A859
  have F860 : Arv Z h856 r kr .byte (8 : Int32) [(.int y0), (.int y1), (.int (StrChars.lo8 x)), (.int y3), (.int y4), (.int y5), (.int y6), (.int y7)] (.int (0 : Int32)) := by rw [nar_sh0 x] at A859; exact A859
  refine X857.aloadN (x := (.ref r)) (D d21_44) rfl rfl ?_
  refine X857.iloadN (x := (3 : Int32)) (D d21_45) rfl ?_
  refine X857.iloadN (x := x) (D d21_46) rfl ?_
  refine X857.gets (w 100 rfl) Via.refl (Sta.ext X857.old.2 SL) (D d21_47) ?_
  intro T861 X862
  refine X862.ishr (D d21_50) ?_
  refine X862.i2b (D d21_51) ?_
  show Goes p.tables e below _ (T861.setTop (mkF m 52 #[.val (.ref r), .val (.int (3 : Int32)), .val (.int x)] [(.int (StrChars.lo8 (x >>> ((8 : Int32) &&& 31)))), (.int (3 : Int32)), (.ref r)]))
  refine X862.bastore F860 ⟨by decide, by decide⟩ 3 rfl (leb rfl) (by simp) (D d21_52) ?_
  intro T863 h864 X865 W866 A867
  have F868 : Arv Z h864 r kr .byte (8 : Int32) [(.int y0), (.int y1), (.int (StrChars.lo8 x)), (.int (StrChars.hi8 x)), (.int y4), (.int y5), (.int y6), (.int y7)] (.int (0 : Int32)) := by rw [nar_lo8 (x >>> ((8 : Int32) &&& 31))] at A867; exact A867
  exact X865.retn hret hlk (D d21_53) (by decide) (by decide) (⟨rfl, F868⟩)
set_option maxRecDepth 65536 in
set_option maxHeartbeats 40000000 in
theorem ctPC4_2 (l : Launch) (Z : State) (a0 : Array Value) (hw : ∀ d ∈ tables_1, d.before a0 Z = true) (hEL : EW Z a0 consts_1) (z0 : Int32) (S0 : Sta Z Z.heap "java/lang/String" "COMPACT_STRINGS" "Z" (.int z0)) (hz0 : ¬ z0 = 0) (SA1 : Sta Z Z.heap "java/lang/StringUTF16" "$assertionsDisabled" "Z" (.int (1 : Int32))) (SH : Sta Z Z.heap "java/lang/StringUTF16" "HI_BYTE_SHIFT" "I" (.int (0 : Int32))) (SL : Sta Z Z.heap "java/lang/StringUTF16" "LO_BYTE_SHIFT" "I" (.int (8 : Int32))) (r : Addr) (kr : ClassId) (x y0 y1 y2 y3 y4 y5 y6 y7 : Int32) (h0 : Heap) (n0 : Nat) (A0 : Arv Z h0 r kr .byte (8 : Int32) [(.int y0), (.int y1), (.int y2), (.int y3), (.int y4), (.int y5), (.int y6), (.int y7)] (.int (0 : Int32))) :
    Ct l Z consts_1 [] (⟨"java/lang/StringUTF16", "putChar", "([BII)V"⟩ : MethodName) jdk_52_method_4_code 3 none ({ frames := 0, cells := 0, slots := 0, locals := 0 } : Room) #[(.ref r), (.int (2 : Int32)), (.int x)] h0 n0 [r] (fun v h => v = none ∧ Arv Z h r kr .byte (8 : Int32) [(.int y0), (.int y1), (.int y2), (.int y3), (.int (StrChars.lo8 x)), (.int (StrChars.hi8 x)), (.int y6), (.int y7)] (.int (0 : Int32))) := by
  have w : ∀ {d : Jvm.Cond} (i : Nat), tables_1[i]? = some d → d.before a0 Z = true := fun i q => hw _ (List.mem_of_getElem? q)
  refine Ct.enter (plainFor_of_name pn_2) hEL ?_
  intro p e sS m below meth c T0 hby hml0 hret hlk hnm hs0 X0
  have hml : c.maxLocals = 3 := hml0
  have D : ∀ {pc : Nat} {r : Except DecodeError (Instr × Nat)}, decode jdk_52_method_4_code pc = r → decode c.code pc = r := fun q => hb hby q
  rw [show entryFrame m #[(.ref r), (.int (2 : Int32)), (.int x)] 3 = mkF m 0 #[.val (.ref r), .val (.int (2 : Int32)), .val (.int x)] [] from by first | (simp [entryFrame, mkF, argsToLocals, Value.category]; done) | rfl]
  refine X0.gets (w 98 rfl) Via.refl (Sta.ext X0.old.2 SA1) (D d21_0) ?_
  intro T869 X870
  refine X870.if_ne 28 (D d21_3) ⟨by decide, by decide⟩ (fun hc871 => ?_) (fun hc871 => absurd hc871 (by decide))
  refine X870.iloadN (x := (2 : Int32)) (D d21_28) rfl ?_
  refine X870.iconst (x := (1 : Int32)) (D d21_29) rfl ?_
  refine X870.ishl (D d21_30) ?_
  show Goes p.tables e below _ (T869.setTop (mkF m 31 #[.val (.ref r), .val (.int (2 : Int32)), .val (.int x)] [(.int (4 : Int32))]))
  refine X870.istoreN #[.val (.ref r), .val (.int (4 : Int32)), .val (.int x)] (D d21_31) rfl ?_
  refine X870.aloadN (x := (.ref r)) (D d21_32) rfl rfl ?_
  refine X870.iloadN (x := (4 : Int32)) (D d21_33) rfl ?_
  refine X870.iinc #[.val (.ref r), .val (.int (5 : Int32)), .val (.int x)] (D d21_34) rfl rfl ?_
  refine X870.iloadN (x := x) (D d21_37) rfl ?_
  refine X870.gets (w 99 rfl) Via.refl (Sta.ext X870.old.2 SH) (D d21_38) ?_
  intro T872 X873
  refine X873.ishr (D d21_41) ?_
  refine X873.i2b (D d21_42) ?_
  show Goes p.tables e below _ (T872.setTop (mkF m 43 #[.val (.ref r), .val (.int (5 : Int32)), .val (.int x)] [(.int (StrChars.lo8 (x >>> ((0 : Int32) &&& 31)))), (.int (4 : Int32)), (.ref r)]))
  refine X873.bastore A0 ⟨by decide, by decide⟩ 4 rfl (leb rfl) (by simp) (D d21_43) ?_
  intro T874 h875 X876 W877 A878
  have F879 : Arv Z h875 r kr .byte (8 : Int32) [(.int y0), (.int y1), (.int y2), (.int y3), (.int (StrChars.lo8 x)), (.int y5), (.int y6), (.int y7)] (.int (0 : Int32)) := by rw [nar_sh0 x] at A878; exact A878
  refine X876.aloadN (x := (.ref r)) (D d21_44) rfl rfl ?_
  refine X876.iloadN (x := (5 : Int32)) (D d21_45) rfl ?_
  refine X876.iloadN (x := x) (D d21_46) rfl ?_
  refine X876.gets (w 100 rfl) Via.refl (Sta.ext X876.old.2 SL) (D d21_47) ?_
  intro T880 X881
  refine X881.ishr (D d21_50) ?_
  refine X881.i2b (D d21_51) ?_
  show Goes p.tables e below _ (T880.setTop (mkF m 52 #[.val (.ref r), .val (.int (5 : Int32)), .val (.int x)] [(.int (StrChars.lo8 (x >>> ((8 : Int32) &&& 31)))), (.int (5 : Int32)), (.ref r)]))
  refine X881.bastore F879 ⟨by decide, by decide⟩ 5 rfl (leb rfl) (by simp) (D d21_52) ?_
  intro T882 h883 X884 W885 A886
  have F887 : Arv Z h883 r kr .byte (8 : Int32) [(.int y0), (.int y1), (.int y2), (.int y3), (.int (StrChars.lo8 x)), (.int (StrChars.hi8 x)), (.int y6), (.int y7)] (.int (0 : Int32)) := by rw [nar_lo8 (x >>> ((8 : Int32) &&& 31))] at A886; exact A886
  exact X884.retn hret hlk (D d21_53) (by decide) (by decide) (⟨rfl, F887⟩)
set_option maxRecDepth 65536 in
set_option maxHeartbeats 40000000 in
theorem ctPC4_3 (l : Launch) (Z : State) (a0 : Array Value) (hw : ∀ d ∈ tables_1, d.before a0 Z = true) (hEL : EW Z a0 consts_1) (z0 : Int32) (S0 : Sta Z Z.heap "java/lang/String" "COMPACT_STRINGS" "Z" (.int z0)) (hz0 : ¬ z0 = 0) (SA1 : Sta Z Z.heap "java/lang/StringUTF16" "$assertionsDisabled" "Z" (.int (1 : Int32))) (SH : Sta Z Z.heap "java/lang/StringUTF16" "HI_BYTE_SHIFT" "I" (.int (0 : Int32))) (SL : Sta Z Z.heap "java/lang/StringUTF16" "LO_BYTE_SHIFT" "I" (.int (8 : Int32))) (r : Addr) (kr : ClassId) (x y0 y1 y2 y3 y4 y5 y6 y7 : Int32) (h0 : Heap) (n0 : Nat) (A0 : Arv Z h0 r kr .byte (8 : Int32) [(.int y0), (.int y1), (.int y2), (.int y3), (.int y4), (.int y5), (.int y6), (.int y7)] (.int (0 : Int32))) :
    Ct l Z consts_1 [] (⟨"java/lang/StringUTF16", "putChar", "([BII)V"⟩ : MethodName) jdk_52_method_4_code 3 none ({ frames := 0, cells := 0, slots := 0, locals := 0 } : Room) #[(.ref r), (.int (3 : Int32)), (.int x)] h0 n0 [r] (fun v h => v = none ∧ Arv Z h r kr .byte (8 : Int32) [(.int y0), (.int y1), (.int y2), (.int y3), (.int y4), (.int y5), (.int (StrChars.lo8 x)), (.int (StrChars.hi8 x))] (.int (0 : Int32))) := by
  have w : ∀ {d : Jvm.Cond} (i : Nat), tables_1[i]? = some d → d.before a0 Z = true := fun i q => hw _ (List.mem_of_getElem? q)
  refine Ct.enter (plainFor_of_name pn_2) hEL ?_
  intro p e sS m below meth c T0 hby hml0 hret hlk hnm hs0 X0
  have hml : c.maxLocals = 3 := hml0
  have D : ∀ {pc : Nat} {r : Except DecodeError (Instr × Nat)}, decode jdk_52_method_4_code pc = r → decode c.code pc = r := fun q => hb hby q
  rw [show entryFrame m #[(.ref r), (.int (3 : Int32)), (.int x)] 3 = mkF m 0 #[.val (.ref r), .val (.int (3 : Int32)), .val (.int x)] [] from by first | (simp [entryFrame, mkF, argsToLocals, Value.category]; done) | rfl]
  refine X0.gets (w 98 rfl) Via.refl (Sta.ext X0.old.2 SA1) (D d21_0) ?_
  intro T888 X889
  refine X889.if_ne 28 (D d21_3) ⟨by decide, by decide⟩ (fun hc890 => ?_) (fun hc890 => absurd hc890 (by decide))
  refine X889.iloadN (x := (3 : Int32)) (D d21_28) rfl ?_
  refine X889.iconst (x := (1 : Int32)) (D d21_29) rfl ?_
  refine X889.ishl (D d21_30) ?_
  show Goes p.tables e below _ (T888.setTop (mkF m 31 #[.val (.ref r), .val (.int (3 : Int32)), .val (.int x)] [(.int (6 : Int32))]))
  refine X889.istoreN #[.val (.ref r), .val (.int (6 : Int32)), .val (.int x)] (D d21_31) rfl ?_
  refine X889.aloadN (x := (.ref r)) (D d21_32) rfl rfl ?_
  refine X889.iloadN (x := (6 : Int32)) (D d21_33) rfl ?_
  refine X889.iinc #[.val (.ref r), .val (.int (7 : Int32)), .val (.int x)] (D d21_34) rfl rfl ?_
  refine X889.iloadN (x := x) (D d21_37) rfl ?_
  refine X889.gets (w 99 rfl) Via.refl (Sta.ext X889.old.2 SH) (D d21_38) ?_
  intro T891 X892
  refine X892.ishr (D d21_41) ?_
  refine X892.i2b (D d21_42) ?_
  show Goes p.tables e below _ (T891.setTop (mkF m 43 #[.val (.ref r), .val (.int (7 : Int32)), .val (.int x)] [(.int (StrChars.lo8 (x >>> ((0 : Int32) &&& 31)))), (.int (6 : Int32)), (.ref r)]))
  refine X892.bastore A0 ⟨by decide, by decide⟩ 6 rfl (leb rfl) (by simp) (D d21_43) ?_
  intro T893 h894 X895 W896 A897
  have F898 : Arv Z h894 r kr .byte (8 : Int32) [(.int y0), (.int y1), (.int y2), (.int y3), (.int y4), (.int y5), (.int (StrChars.lo8 x)), (.int y7)] (.int (0 : Int32)) := by rw [nar_sh0 x] at A897; exact A897
  refine X895.aloadN (x := (.ref r)) (D d21_44) rfl rfl ?_
  refine X895.iloadN (x := (7 : Int32)) (D d21_45) rfl ?_
  refine X895.iloadN (x := x) (D d21_46) rfl ?_
  refine X895.gets (w 100 rfl) Via.refl (Sta.ext X895.old.2 SL) (D d21_47) ?_
  intro T899 X900
  refine X900.ishr (D d21_50) ?_
  refine X900.i2b (D d21_51) ?_
  show Goes p.tables e below _ (T899.setTop (mkF m 52 #[.val (.ref r), .val (.int (7 : Int32)), .val (.int x)] [(.int (StrChars.lo8 (x >>> ((8 : Int32) &&& 31)))), (.int (7 : Int32)), (.ref r)]))
  refine X900.bastore F898 ⟨by decide, by decide⟩ 7 rfl (leb rfl) (by simp) (D d21_52) ?_
  intro T901 h902 X903 W904 A905
  have F906 : Arv Z h902 r kr .byte (8 : Int32) [(.int y0), (.int y1), (.int y2), (.int y3), (.int y4), (.int y5), (.int (StrChars.lo8 x)), (.int (StrChars.hi8 x))] (.int (0 : Int32)) := by rw [nar_lo8 (x >>> ((8 : Int32) &&& 31))] at A905; exact A905
  exact X903.retn hret hlk (D d21_53) (by decide) (by decide) (⟨rfl, F906⟩)
set_option maxRecDepth 65536 in
set_option maxHeartbeats 40000000 in
theorem ctTB4 (l : Launch) (Z : State) (a0 : Array Value) (hw : ∀ d ∈ tables_1, d.before a0 Z = true) (hEL : EW Z a0 consts_1) (z0 : Int32) (S0 : Sta Z Z.heap "java/lang/String" "COMPACT_STRINGS" "Z" (.int z0)) (hz0 : ¬ z0 = 0) (SA1 : Sta Z Z.heap "java/lang/StringUTF16" "$assertionsDisabled" "Z" (.int (1 : Int32))) (SH : Sta Z Z.heap "java/lang/StringUTF16" "HI_BYTE_SHIFT" "I" (.int (0 : Int32))) (SL : Sta Z Z.heap "java/lang/StringUTF16" "LO_BYTE_SHIFT" "I" (.int (8 : Int32))) (b : Addr) (kb : ClassId) (dv : Value) (c0 c1 c2 c3 : Int32) (h0 : Heap) (n0 : Nat) (A0 : Arv Z h0 b kb .char (4 : Int32) [(.int c0), (.int c1), (.int c2), (.int c3)] dv) :
    Ct l Z consts_1 [] (⟨"java/lang/StringUTF16", "toBytes", "([CII)[B"⟩ : MethodName) jdk_52_method_14_code 5 (some (.array .byte)) ({ frames := 2, cells := 1, slots := 8, locals := 24 } : Room) #[(.ref b), (.int (0 : Int32)), (.int (4 : Int32))] h0 n0 [] (fun v h => ∃ (r : Addr) (kr : ClassId), v = some (.ref r) ∧ Arv Z h r kr .byte (8 : Int32) [(.int (StrChars.lo8 c0)), (.int (StrChars.hi8 c0)), (.int (StrChars.lo8 c1)), (.int (StrChars.hi8 c1)), (.int (StrChars.lo8 c2)), (.int (StrChars.hi8 c2)), (.int (StrChars.lo8 c3)), (.int (StrChars.hi8 c3))] (.int (0 : Int32))) := by
  have w : ∀ {d : Jvm.Cond} (i : Nat), tables_1[i]? = some d → d.before a0 Z = true := fun i q => hw _ (List.mem_of_getElem? q)
  refine Ct.enter (plainFor_of_name pn_2) hEL ?_
  intro p e sS m below meth c T0 hby hml0 hret hlk hnm hs0 X0
  have hml : c.maxLocals = 5 := hml0
  have D : ∀ {pc : Nat} {r : Except DecodeError (Instr × Nat)}, decode jdk_52_method_14_code pc = r → decode c.code pc = r := fun q => hb hby q
  rw [show entryFrame m #[(.ref b), (.int (0 : Int32)), (.int (4 : Int32))] 5 = mkF m 0 #[.val (.ref b), .val (.int (0 : Int32)), .val (.int (4 : Int32)), .unset, .unset] [] from by first | (simp [entryFrame, mkF, argsToLocals, Value.category]; done) | rfl]
  refine X0.iloadN (x := (4 : Int32)) (D d18_0) rfl ?_
  refine X0.callsF [(.int (4 : Int32))] [] (ctNF4 l Z a0 hw hEL z0 S0 hz0 _ _) (w 88 rfl) (w 89 rfl) (w 42 rfl) (w 90 rfl) (by decide) (fun _ q => nomatch q) (by decide) 0 (by decide) (by decide) (by decide) (lenOf pd_3 rfl) rfl (leb rfl) (by rw [hml]; rfl) (D d18_1) ?_
  rintro T907 h908 _ _ X910 K911 hg912 ⟨r, kr, rfl, rfl, A1⟩
  have F913 := A0.keep K911 nin0
  have fg914 := hg912 r (by simp)
  have lt915 : b < r := Nat.lt_of_lt_of_le A0.lt fg914
  show Goes p.tables e below _ (T907.setTop (mkF m 4 #[.val (.ref b), .val (.int (0 : Int32)), .val (.int (4 : Int32)), .unset, .unset] [(.ref r)]))
  refine X910.astoreN #[.val (.ref b), .val (.int (0 : Int32)), .val (.int (4 : Int32)), .val (.ref r), .unset] (D d18_4) rfl rfl ?_
  refine X910.iconst (x := (0 : Int32)) (D d18_5) rfl ?_
  refine X910.istore #[.val (.ref b), .val (.int (0 : Int32)), .val (.int (4 : Int32)), .val (.ref r), .val (.int (0 : Int32))] (D d18_6) rfl ?_
  refine X910.iload (x := (0 : Int32)) (D d18_8) rfl ?_
  refine X910.iloadN (x := (4 : Int32)) (D d18_10) rfl ?_
  refine X910.icmp_ge 32 (D d18_11) ⟨by decide, by decide⟩ (fun hc916 => absurd hc916 (by decide)) (fun hc916 => ?_)
  refine X910.aloadN (x := (.ref r)) (D d18_14) rfl rfl ?_
  refine X910.iload (x := (0 : Int32)) (D d18_15) rfl ?_
  refine X910.aloadN (x := (.ref b)) (D d18_17) rfl rfl ?_
  refine X910.iloadN (x := (0 : Int32)) (D d18_18) rfl ?_
  show Goes p.tables e below _ (T907.setTop (mkF m 19 #[.val (.ref b), .val (.int (0 : Int32)), .val (.int (4 : Int32)), .val (.ref r), .val (.int (0 : Int32))] [(.int (0 : Int32)), (.ref b), (.int (0 : Int32)), (.ref r)]))
  refine X910.caload (v := (.int c0)) F913 ⟨by decide, by decide⟩ rfl (D d18_19) ?_
  refine X910.calls [(.ref r), (.int (0 : Int32)), (.int c0)] [] (ctPC4_0 l Z a0 hw hEL z0 S0 hz0 SA1 SH SL r kr c0 (0 : Int32) (0 : Int32) (0 : Int32) (0 : Int32) (0 : Int32) (0 : Int32) (0 : Int32) (0 : Int32) _ _ A1) (w 95 rfl) (w 96 rfl) (w 42 rfl) (w 97 rfl) (by decide) (by simp) (by decide) 0 (by decide) (by decide) (by decide) (lenOf pd_4 rfl) rfl (leb rfl) (by rw [hml]; rfl) (D d18_20) ?_
  rintro T918 h919 _ X921 K922 ⟨rfl, G917⟩
  have F923 := F913.keep K922 (ninS (Nat.ne_of_lt lt915) nin0)
  show Goes p.tables e below _ (T918.setTop (mkF m 23 #[.val (.ref b), .val (.int (0 : Int32)), .val (.int (4 : Int32)), .val (.ref r), .val (.int (0 : Int32))] []))
  refine X921.iinc #[.val (.ref b), .val (.int (1 : Int32)), .val (.int (4 : Int32)), .val (.ref r), .val (.int (0 : Int32))] (D d18_23) rfl rfl ?_
  refine X921.iinc #[.val (.ref b), .val (.int (1 : Int32)), .val (.int (4 : Int32)), .val (.ref r), .val (.int (1 : Int32))] (D d18_26) rfl rfl ?_
  refine X921.goto 8 (D d18_29) ⟨by decide, by decide⟩ ?_
  refine X921.iload (x := (1 : Int32)) (D d18_8) rfl ?_
  refine X921.iloadN (x := (4 : Int32)) (D d18_10) rfl ?_
  refine X921.icmp_ge 32 (D d18_11) ⟨by decide, by decide⟩ (fun hc924 => absurd hc924 (by decide)) (fun hc924 => ?_)
  refine X921.aloadN (x := (.ref r)) (D d18_14) rfl rfl ?_
  refine X921.iload (x := (1 : Int32)) (D d18_15) rfl ?_
  refine X921.aloadN (x := (.ref b)) (D d18_17) rfl rfl ?_
  refine X921.iloadN (x := (1 : Int32)) (D d18_18) rfl ?_
  show Goes p.tables e below _ (T918.setTop (mkF m 19 #[.val (.ref b), .val (.int (1 : Int32)), .val (.int (4 : Int32)), .val (.ref r), .val (.int (1 : Int32))] [(.int (1 : Int32)), (.ref b), (.int (1 : Int32)), (.ref r)]))
  refine X921.caload (v := (.int c1)) F923 ⟨by decide, by decide⟩ rfl (D d18_19) ?_
  refine X921.calls [(.ref r), (.int (1 : Int32)), (.int c1)] [] (ctPC4_1 l Z a0 hw hEL z0 S0 hz0 SA1 SH SL r kr c1 (StrChars.lo8 c0) (StrChars.hi8 c0) (0 : Int32) (0 : Int32) (0 : Int32) (0 : Int32) (0 : Int32) (0 : Int32) _ _ G917) (w 95 rfl) (w 96 rfl) (w 42 rfl) (w 97 rfl) (by decide) (by simp) (by decide) 0 (by decide) (by decide) (by decide) (lenOf pd_4 rfl) rfl (leb rfl) (by rw [hml]; rfl) (D d18_20) ?_
  rintro T926 h927 _ X929 K930 ⟨rfl, G925⟩
  have F931 := F923.keep K930 (ninS (Nat.ne_of_lt lt915) nin0)
  show Goes p.tables e below _ (T926.setTop (mkF m 23 #[.val (.ref b), .val (.int (1 : Int32)), .val (.int (4 : Int32)), .val (.ref r), .val (.int (1 : Int32))] []))
  refine X929.iinc #[.val (.ref b), .val (.int (2 : Int32)), .val (.int (4 : Int32)), .val (.ref r), .val (.int (1 : Int32))] (D d18_23) rfl rfl ?_
  refine X929.iinc #[.val (.ref b), .val (.int (2 : Int32)), .val (.int (4 : Int32)), .val (.ref r), .val (.int (2 : Int32))] (D d18_26) rfl rfl ?_
  refine X929.goto 8 (D d18_29) ⟨by decide, by decide⟩ ?_
  refine X929.iload (x := (2 : Int32)) (D d18_8) rfl ?_
  refine X929.iloadN (x := (4 : Int32)) (D d18_10) rfl ?_
  refine X929.icmp_ge 32 (D d18_11) ⟨by decide, by decide⟩ (fun hc932 => absurd hc932 (by decide)) (fun hc932 => ?_)
  refine X929.aloadN (x := (.ref r)) (D d18_14) rfl rfl ?_
  refine X929.iload (x := (2 : Int32)) (D d18_15) rfl ?_
  refine X929.aloadN (x := (.ref b)) (D d18_17) rfl rfl ?_
  refine X929.iloadN (x := (2 : Int32)) (D d18_18) rfl ?_
  show Goes p.tables e below _ (T926.setTop (mkF m 19 #[.val (.ref b), .val (.int (2 : Int32)), .val (.int (4 : Int32)), .val (.ref r), .val (.int (2 : Int32))] [(.int (2 : Int32)), (.ref b), (.int (2 : Int32)), (.ref r)]))
  refine X929.caload (v := (.int c2)) F931 ⟨by decide, by decide⟩ rfl (D d18_19) ?_
  refine X929.calls [(.ref r), (.int (2 : Int32)), (.int c2)] [] (ctPC4_2 l Z a0 hw hEL z0 S0 hz0 SA1 SH SL r kr c2 (StrChars.lo8 c0) (StrChars.hi8 c0) (StrChars.lo8 c1) (StrChars.hi8 c1) (0 : Int32) (0 : Int32) (0 : Int32) (0 : Int32) _ _ G925) (w 95 rfl) (w 96 rfl) (w 42 rfl) (w 97 rfl) (by decide) (by simp) (by decide) 0 (by decide) (by decide) (by decide) (lenOf pd_4 rfl) rfl (leb rfl) (by rw [hml]; rfl) (D d18_20) ?_
  rintro T934 h935 _ X937 K938 ⟨rfl, G933⟩
  have F939 := F931.keep K938 (ninS (Nat.ne_of_lt lt915) nin0)
  show Goes p.tables e below _ (T934.setTop (mkF m 23 #[.val (.ref b), .val (.int (2 : Int32)), .val (.int (4 : Int32)), .val (.ref r), .val (.int (2 : Int32))] []))
  refine X937.iinc #[.val (.ref b), .val (.int (3 : Int32)), .val (.int (4 : Int32)), .val (.ref r), .val (.int (2 : Int32))] (D d18_23) rfl rfl ?_
  refine X937.iinc #[.val (.ref b), .val (.int (3 : Int32)), .val (.int (4 : Int32)), .val (.ref r), .val (.int (3 : Int32))] (D d18_26) rfl rfl ?_
  refine X937.goto 8 (D d18_29) ⟨by decide, by decide⟩ ?_
  refine X937.iload (x := (3 : Int32)) (D d18_8) rfl ?_
  refine X937.iloadN (x := (4 : Int32)) (D d18_10) rfl ?_
  refine X937.icmp_ge 32 (D d18_11) ⟨by decide, by decide⟩ (fun hc940 => absurd hc940 (by decide)) (fun hc940 => ?_)
  refine X937.aloadN (x := (.ref r)) (D d18_14) rfl rfl ?_
  refine X937.iload (x := (3 : Int32)) (D d18_15) rfl ?_
  refine X937.aloadN (x := (.ref b)) (D d18_17) rfl rfl ?_
  refine X937.iloadN (x := (3 : Int32)) (D d18_18) rfl ?_
  show Goes p.tables e below _ (T934.setTop (mkF m 19 #[.val (.ref b), .val (.int (3 : Int32)), .val (.int (4 : Int32)), .val (.ref r), .val (.int (3 : Int32))] [(.int (3 : Int32)), (.ref b), (.int (3 : Int32)), (.ref r)]))
  refine X937.caload (v := (.int c3)) F939 ⟨by decide, by decide⟩ rfl (D d18_19) ?_
  refine X937.calls [(.ref r), (.int (3 : Int32)), (.int c3)] [] (ctPC4_3 l Z a0 hw hEL z0 S0 hz0 SA1 SH SL r kr c3 (StrChars.lo8 c0) (StrChars.hi8 c0) (StrChars.lo8 c1) (StrChars.hi8 c1) (StrChars.lo8 c2) (StrChars.hi8 c2) (0 : Int32) (0 : Int32) _ _ G933) (w 95 rfl) (w 96 rfl) (w 42 rfl) (w 97 rfl) (by decide) (by simp) (by decide) 0 (by decide) (by decide) (by decide) (lenOf pd_4 rfl) rfl (leb rfl) (by rw [hml]; rfl) (D d18_20) ?_
  rintro T942 h943 _ X945 K946 ⟨rfl, G941⟩
  have F947 := F939.keep K946 (ninS (Nat.ne_of_lt lt915) nin0)
  show Goes p.tables e below _ (T942.setTop (mkF m 23 #[.val (.ref b), .val (.int (3 : Int32)), .val (.int (4 : Int32)), .val (.ref r), .val (.int (3 : Int32))] []))
  refine X945.iinc #[.val (.ref b), .val (.int (4 : Int32)), .val (.int (4 : Int32)), .val (.ref r), .val (.int (3 : Int32))] (D d18_23) rfl rfl ?_
  refine X945.iinc #[.val (.ref b), .val (.int (4 : Int32)), .val (.int (4 : Int32)), .val (.ref r), .val (.int (4 : Int32))] (D d18_26) rfl rfl ?_
  refine X945.goto 8 (D d18_29) ⟨by decide, by decide⟩ ?_
  refine X945.iload (x := (4 : Int32)) (D d18_8) rfl ?_
  refine X945.iloadN (x := (4 : Int32)) (D d18_10) rfl ?_
  refine X945.icmp_ge 32 (D d18_11) ⟨by decide, by decide⟩ (fun hc948 => ?_) (fun hc948 => absurd hc948 (by decide))
  refine X945.aloadN (x := (.ref r)) (D d18_32) rfl rfl ?_
  exact X945.retA hret rfl rfl hlk (D d18_33) (by decide) (by decide) (⟨r, kr, rfl, G941⟩)
set_option maxRecDepth 65536 in
set_option maxHeartbeats 40000000 in
theorem ctGC4_0 (l : Launch) (Z : State) (a0 : Array Value) (hw : ∀ d ∈ tables_1, d.before a0 Z = true) (hEL : EW Z a0 consts_1) (z0 : Int32) (S0 : Sta Z Z.heap "java/lang/String" "COMPACT_STRINGS" "Z" (.int z0)) (hz0 : ¬ z0 = 0) (SA1 : Sta Z Z.heap "java/lang/StringUTF16" "$assertionsDisabled" "Z" (.int (1 : Int32))) (SH : Sta Z Z.heap "java/lang/StringUTF16" "HI_BYTE_SHIFT" "I" (.int (0 : Int32))) (SL : Sta Z Z.heap "java/lang/StringUTF16" "LO_BYTE_SHIFT" "I" (.int (8 : Int32))) (r : Addr) (kr : ClassId) (c0 c1 c2 c3 : Int32) (h0 : Heap) (n0 : Nat) (A0 : Arv Z h0 r kr .byte (8 : Int32) [(.int (StrChars.lo8 c0)), (.int (StrChars.hi8 c0)), (.int (StrChars.lo8 c1)), (.int (StrChars.hi8 c1)), (.int (StrChars.lo8 c2)), (.int (StrChars.hi8 c2)), (.int (StrChars.lo8 c3)), (.int (StrChars.hi8 c3))] (.int (0 : Int32))) (r0 : Rc c0) :
    Ct l Z consts_1 [] (⟨"java/lang/StringUTF16", "getChar", "([BI)C"⟩ : MethodName) jdk_52_method_5_code 2 (some .char) ({ frames := 0, cells := 0, slots := 0, locals := 0 } : Room) #[(.ref r), (.int (0 : Int32))] h0 n0 [] (fun v _ => v = some (.int c0)) := by
  have w : ∀ {d : Jvm.Cond} (i : Nat), tables_1[i]? = some d → d.before a0 Z = true := fun i q => hw _ (List.mem_of_getElem? q)
  refine Ct.enter (plainFor_of_name pn_2) hEL ?_
  intro p e sS m below meth c T0 hby hml0 hret hlk hnm hs0 X0
  have hml : c.maxLocals = 2 := hml0
  have D : ∀ {pc : Nat} {r : Except DecodeError (Instr × Nat)}, decode jdk_52_method_5_code pc = r → decode c.code pc = r := fun q => hb hby q
  rw [show entryFrame m #[(.ref r), (.int (0 : Int32))] 2 = mkF m 0 #[.val (.ref r), .val (.int (0 : Int32))] [] from by first | (simp [entryFrame, mkF, argsToLocals, Value.category]; done) | rfl]
  refine X0.gets (w 98 rfl) Via.refl (Sta.ext X0.old.2 SA1) (D d22_0) ?_
  intro T949 X950
  refine X950.if_ne 28 (D d22_3) ⟨by decide, by decide⟩ (fun hc951 => ?_) (fun hc951 => absurd hc951 (by decide))
  refine X950.iloadN (x := (0 : Int32)) (D d22_28) rfl ?_
  refine X950.iconst (x := (1 : Int32)) (D d22_29) rfl ?_
  refine X950.ishl (D d22_30) ?_
  show Goes p.tables e below _ (T949.setTop (mkF m 31 #[.val (.ref r), .val (.int (0 : Int32))] [(.int (0 : Int32))]))
  refine X950.istoreN #[.val (.ref r), .val (.int (0 : Int32))] (D d22_31) rfl ?_
  refine X950.aloadN (x := (.ref r)) (D d22_32) rfl rfl ?_
  refine X950.iloadN (x := (0 : Int32)) (D d22_33) rfl ?_
  refine X950.iinc #[.val (.ref r), .val (.int (1 : Int32))] (D d22_34) rfl rfl ?_
  show Goes p.tables e below _ (T949.setTop (mkF m 37 #[.val (.ref r), .val (.int (1 : Int32))] [(.int (0 : Int32)), (.ref r)]))
  refine X950.baload (v := (.int (StrChars.lo8 c0))) A0 ⟨by decide, by decide⟩ rfl (D d22_37) ?_
  refine X950.sipush (x := (255 : Int32)) (D d22_38) rfl ?_
  refine X950.iand (D d22_41) ?_
  refine X950.gets (w 99 rfl) Via.refl (Sta.ext X950.old.2 SH) (D d22_42) ?_
  intro T952 X953
  refine X953.ishl (D d22_45) ?_
  refine X953.aloadN (x := (.ref r)) (D d22_46) rfl rfl ?_
  refine X953.iloadN (x := (1 : Int32)) (D d22_47) rfl ?_
  show Goes p.tables e below _ (T952.setTop (mkF m 48 #[.val (.ref r), .val (.int (1 : Int32))] [(.int (1 : Int32)), (.ref r), (.int (((StrChars.lo8 c0) &&& (255 : Int32)) <<< ((0 : Int32) &&& 31)))]))
  refine X953.baload (v := (.int (StrChars.hi8 c0))) A0 ⟨by decide, by decide⟩ rfl (D d22_48) ?_
  refine X953.sipush (x := (255 : Int32)) (D d22_49) rfl ?_
  refine X953.iand (D d22_52) ?_
  refine X953.gets (w 100 rfl) Via.refl (Sta.ext X953.old.2 SL) (D d22_53) ?_
  intro T954 X955
  refine X955.ishl (D d22_56) ?_
  refine X955.ior (D d22_57) ?_
  refine X955.i2c (D d22_58) ?_
  exact X955.reti hret (by simp) hlk (D d22_59) (by decide) (by decide) (ret_pair r0)
set_option maxRecDepth 65536 in
set_option maxHeartbeats 40000000 in
theorem ctGC4_1 (l : Launch) (Z : State) (a0 : Array Value) (hw : ∀ d ∈ tables_1, d.before a0 Z = true) (hEL : EW Z a0 consts_1) (z0 : Int32) (S0 : Sta Z Z.heap "java/lang/String" "COMPACT_STRINGS" "Z" (.int z0)) (hz0 : ¬ z0 = 0) (SA1 : Sta Z Z.heap "java/lang/StringUTF16" "$assertionsDisabled" "Z" (.int (1 : Int32))) (SH : Sta Z Z.heap "java/lang/StringUTF16" "HI_BYTE_SHIFT" "I" (.int (0 : Int32))) (SL : Sta Z Z.heap "java/lang/StringUTF16" "LO_BYTE_SHIFT" "I" (.int (8 : Int32))) (r : Addr) (kr : ClassId) (c0 c1 c2 c3 : Int32) (h0 : Heap) (n0 : Nat) (A0 : Arv Z h0 r kr .byte (8 : Int32) [(.int (StrChars.lo8 c0)), (.int (StrChars.hi8 c0)), (.int (StrChars.lo8 c1)), (.int (StrChars.hi8 c1)), (.int (StrChars.lo8 c2)), (.int (StrChars.hi8 c2)), (.int (StrChars.lo8 c3)), (.int (StrChars.hi8 c3))] (.int (0 : Int32))) (r1 : Rc c1) :
    Ct l Z consts_1 [] (⟨"java/lang/StringUTF16", "getChar", "([BI)C"⟩ : MethodName) jdk_52_method_5_code 2 (some .char) ({ frames := 0, cells := 0, slots := 0, locals := 0 } : Room) #[(.ref r), (.int (1 : Int32))] h0 n0 [] (fun v _ => v = some (.int c1)) := by
  have w : ∀ {d : Jvm.Cond} (i : Nat), tables_1[i]? = some d → d.before a0 Z = true := fun i q => hw _ (List.mem_of_getElem? q)
  refine Ct.enter (plainFor_of_name pn_2) hEL ?_
  intro p e sS m below meth c T0 hby hml0 hret hlk hnm hs0 X0
  have hml : c.maxLocals = 2 := hml0
  have D : ∀ {pc : Nat} {r : Except DecodeError (Instr × Nat)}, decode jdk_52_method_5_code pc = r → decode c.code pc = r := fun q => hb hby q
  rw [show entryFrame m #[(.ref r), (.int (1 : Int32))] 2 = mkF m 0 #[.val (.ref r), .val (.int (1 : Int32))] [] from by first | (simp [entryFrame, mkF, argsToLocals, Value.category]; done) | rfl]
  refine X0.gets (w 98 rfl) Via.refl (Sta.ext X0.old.2 SA1) (D d22_0) ?_
  intro T956 X957
  refine X957.if_ne 28 (D d22_3) ⟨by decide, by decide⟩ (fun hc958 => ?_) (fun hc958 => absurd hc958 (by decide))
  refine X957.iloadN (x := (1 : Int32)) (D d22_28) rfl ?_
  refine X957.iconst (x := (1 : Int32)) (D d22_29) rfl ?_
  refine X957.ishl (D d22_30) ?_
  show Goes p.tables e below _ (T956.setTop (mkF m 31 #[.val (.ref r), .val (.int (1 : Int32))] [(.int (2 : Int32))]))
  refine X957.istoreN #[.val (.ref r), .val (.int (2 : Int32))] (D d22_31) rfl ?_
  refine X957.aloadN (x := (.ref r)) (D d22_32) rfl rfl ?_
  refine X957.iloadN (x := (2 : Int32)) (D d22_33) rfl ?_
  refine X957.iinc #[.val (.ref r), .val (.int (3 : Int32))] (D d22_34) rfl rfl ?_
  show Goes p.tables e below _ (T956.setTop (mkF m 37 #[.val (.ref r), .val (.int (3 : Int32))] [(.int (2 : Int32)), (.ref r)]))
  refine X957.baload (v := (.int (StrChars.lo8 c1))) A0 ⟨by decide, by decide⟩ rfl (D d22_37) ?_
  refine X957.sipush (x := (255 : Int32)) (D d22_38) rfl ?_
  refine X957.iand (D d22_41) ?_
  refine X957.gets (w 99 rfl) Via.refl (Sta.ext X957.old.2 SH) (D d22_42) ?_
  intro T959 X960
  refine X960.ishl (D d22_45) ?_
  refine X960.aloadN (x := (.ref r)) (D d22_46) rfl rfl ?_
  refine X960.iloadN (x := (3 : Int32)) (D d22_47) rfl ?_
  show Goes p.tables e below _ (T959.setTop (mkF m 48 #[.val (.ref r), .val (.int (3 : Int32))] [(.int (3 : Int32)), (.ref r), (.int (((StrChars.lo8 c1) &&& (255 : Int32)) <<< ((0 : Int32) &&& 31)))]))
  refine X960.baload (v := (.int (StrChars.hi8 c1))) A0 ⟨by decide, by decide⟩ rfl (D d22_48) ?_
  refine X960.sipush (x := (255 : Int32)) (D d22_49) rfl ?_
  refine X960.iand (D d22_52) ?_
  refine X960.gets (w 100 rfl) Via.refl (Sta.ext X960.old.2 SL) (D d22_53) ?_
  intro T961 X962
  refine X962.ishl (D d22_56) ?_
  refine X962.ior (D d22_57) ?_
  refine X962.i2c (D d22_58) ?_
  exact X962.reti hret (by simp) hlk (D d22_59) (by decide) (by decide) (ret_pair r1)
set_option maxRecDepth 65536 in
set_option maxHeartbeats 40000000 in
theorem ctGC4_2 (l : Launch) (Z : State) (a0 : Array Value) (hw : ∀ d ∈ tables_1, d.before a0 Z = true) (hEL : EW Z a0 consts_1) (z0 : Int32) (S0 : Sta Z Z.heap "java/lang/String" "COMPACT_STRINGS" "Z" (.int z0)) (hz0 : ¬ z0 = 0) (SA1 : Sta Z Z.heap "java/lang/StringUTF16" "$assertionsDisabled" "Z" (.int (1 : Int32))) (SH : Sta Z Z.heap "java/lang/StringUTF16" "HI_BYTE_SHIFT" "I" (.int (0 : Int32))) (SL : Sta Z Z.heap "java/lang/StringUTF16" "LO_BYTE_SHIFT" "I" (.int (8 : Int32))) (r : Addr) (kr : ClassId) (c0 c1 c2 c3 : Int32) (h0 : Heap) (n0 : Nat) (A0 : Arv Z h0 r kr .byte (8 : Int32) [(.int (StrChars.lo8 c0)), (.int (StrChars.hi8 c0)), (.int (StrChars.lo8 c1)), (.int (StrChars.hi8 c1)), (.int (StrChars.lo8 c2)), (.int (StrChars.hi8 c2)), (.int (StrChars.lo8 c3)), (.int (StrChars.hi8 c3))] (.int (0 : Int32))) (r2 : Rc c2) :
    Ct l Z consts_1 [] (⟨"java/lang/StringUTF16", "getChar", "([BI)C"⟩ : MethodName) jdk_52_method_5_code 2 (some .char) ({ frames := 0, cells := 0, slots := 0, locals := 0 } : Room) #[(.ref r), (.int (2 : Int32))] h0 n0 [] (fun v _ => v = some (.int c2)) := by
  have w : ∀ {d : Jvm.Cond} (i : Nat), tables_1[i]? = some d → d.before a0 Z = true := fun i q => hw _ (List.mem_of_getElem? q)
  refine Ct.enter (plainFor_of_name pn_2) hEL ?_
  intro p e sS m below meth c T0 hby hml0 hret hlk hnm hs0 X0
  have hml : c.maxLocals = 2 := hml0
  have D : ∀ {pc : Nat} {r : Except DecodeError (Instr × Nat)}, decode jdk_52_method_5_code pc = r → decode c.code pc = r := fun q => hb hby q
  rw [show entryFrame m #[(.ref r), (.int (2 : Int32))] 2 = mkF m 0 #[.val (.ref r), .val (.int (2 : Int32))] [] from by first | (simp [entryFrame, mkF, argsToLocals, Value.category]; done) | rfl]
  refine X0.gets (w 98 rfl) Via.refl (Sta.ext X0.old.2 SA1) (D d22_0) ?_
  intro T963 X964
  refine X964.if_ne 28 (D d22_3) ⟨by decide, by decide⟩ (fun hc965 => ?_) (fun hc965 => absurd hc965 (by decide))
  refine X964.iloadN (x := (2 : Int32)) (D d22_28) rfl ?_
  refine X964.iconst (x := (1 : Int32)) (D d22_29) rfl ?_
  refine X964.ishl (D d22_30) ?_
  show Goes p.tables e below _ (T963.setTop (mkF m 31 #[.val (.ref r), .val (.int (2 : Int32))] [(.int (4 : Int32))]))
  refine X964.istoreN #[.val (.ref r), .val (.int (4 : Int32))] (D d22_31) rfl ?_
  refine X964.aloadN (x := (.ref r)) (D d22_32) rfl rfl ?_
  refine X964.iloadN (x := (4 : Int32)) (D d22_33) rfl ?_
  refine X964.iinc #[.val (.ref r), .val (.int (5 : Int32))] (D d22_34) rfl rfl ?_
  show Goes p.tables e below _ (T963.setTop (mkF m 37 #[.val (.ref r), .val (.int (5 : Int32))] [(.int (4 : Int32)), (.ref r)]))
  refine X964.baload (v := (.int (StrChars.lo8 c2))) A0 ⟨by decide, by decide⟩ rfl (D d22_37) ?_
  refine X964.sipush (x := (255 : Int32)) (D d22_38) rfl ?_
  refine X964.iand (D d22_41) ?_
  refine X964.gets (w 99 rfl) Via.refl (Sta.ext X964.old.2 SH) (D d22_42) ?_
  intro T966 X967
  refine X967.ishl (D d22_45) ?_
  refine X967.aloadN (x := (.ref r)) (D d22_46) rfl rfl ?_
  refine X967.iloadN (x := (5 : Int32)) (D d22_47) rfl ?_
  show Goes p.tables e below _ (T966.setTop (mkF m 48 #[.val (.ref r), .val (.int (5 : Int32))] [(.int (5 : Int32)), (.ref r), (.int (((StrChars.lo8 c2) &&& (255 : Int32)) <<< ((0 : Int32) &&& 31)))]))
  refine X967.baload (v := (.int (StrChars.hi8 c2))) A0 ⟨by decide, by decide⟩ rfl (D d22_48) ?_
  refine X967.sipush (x := (255 : Int32)) (D d22_49) rfl ?_
  refine X967.iand (D d22_52) ?_
  refine X967.gets (w 100 rfl) Via.refl (Sta.ext X967.old.2 SL) (D d22_53) ?_
  intro T968 X969
  refine X969.ishl (D d22_56) ?_
  refine X969.ior (D d22_57) ?_
  refine X969.i2c (D d22_58) ?_
  exact X969.reti hret (by simp) hlk (D d22_59) (by decide) (by decide) (ret_pair r2)
set_option maxRecDepth 65536 in
set_option maxHeartbeats 40000000 in
theorem ctGC4_3 (l : Launch) (Z : State) (a0 : Array Value) (hw : ∀ d ∈ tables_1, d.before a0 Z = true) (hEL : EW Z a0 consts_1) (z0 : Int32) (S0 : Sta Z Z.heap "java/lang/String" "COMPACT_STRINGS" "Z" (.int z0)) (hz0 : ¬ z0 = 0) (SA1 : Sta Z Z.heap "java/lang/StringUTF16" "$assertionsDisabled" "Z" (.int (1 : Int32))) (SH : Sta Z Z.heap "java/lang/StringUTF16" "HI_BYTE_SHIFT" "I" (.int (0 : Int32))) (SL : Sta Z Z.heap "java/lang/StringUTF16" "LO_BYTE_SHIFT" "I" (.int (8 : Int32))) (r : Addr) (kr : ClassId) (c0 c1 c2 c3 : Int32) (h0 : Heap) (n0 : Nat) (A0 : Arv Z h0 r kr .byte (8 : Int32) [(.int (StrChars.lo8 c0)), (.int (StrChars.hi8 c0)), (.int (StrChars.lo8 c1)), (.int (StrChars.hi8 c1)), (.int (StrChars.lo8 c2)), (.int (StrChars.hi8 c2)), (.int (StrChars.lo8 c3)), (.int (StrChars.hi8 c3))] (.int (0 : Int32))) (r3 : Rc c3) :
    Ct l Z consts_1 [] (⟨"java/lang/StringUTF16", "getChar", "([BI)C"⟩ : MethodName) jdk_52_method_5_code 2 (some .char) ({ frames := 0, cells := 0, slots := 0, locals := 0 } : Room) #[(.ref r), (.int (3 : Int32))] h0 n0 [] (fun v _ => v = some (.int c3)) := by
  have w : ∀ {d : Jvm.Cond} (i : Nat), tables_1[i]? = some d → d.before a0 Z = true := fun i q => hw _ (List.mem_of_getElem? q)
  refine Ct.enter (plainFor_of_name pn_2) hEL ?_
  intro p e sS m below meth c T0 hby hml0 hret hlk hnm hs0 X0
  have hml : c.maxLocals = 2 := hml0
  have D : ∀ {pc : Nat} {r : Except DecodeError (Instr × Nat)}, decode jdk_52_method_5_code pc = r → decode c.code pc = r := fun q => hb hby q
  rw [show entryFrame m #[(.ref r), (.int (3 : Int32))] 2 = mkF m 0 #[.val (.ref r), .val (.int (3 : Int32))] [] from by first | (simp [entryFrame, mkF, argsToLocals, Value.category]; done) | rfl]
  refine X0.gets (w 98 rfl) Via.refl (Sta.ext X0.old.2 SA1) (D d22_0) ?_
  intro T970 X971
  refine X971.if_ne 28 (D d22_3) ⟨by decide, by decide⟩ (fun hc972 => ?_) (fun hc972 => absurd hc972 (by decide))
  refine X971.iloadN (x := (3 : Int32)) (D d22_28) rfl ?_
  refine X971.iconst (x := (1 : Int32)) (D d22_29) rfl ?_
  refine X971.ishl (D d22_30) ?_
  show Goes p.tables e below _ (T970.setTop (mkF m 31 #[.val (.ref r), .val (.int (3 : Int32))] [(.int (6 : Int32))]))
  refine X971.istoreN #[.val (.ref r), .val (.int (6 : Int32))] (D d22_31) rfl ?_
  refine X971.aloadN (x := (.ref r)) (D d22_32) rfl rfl ?_
  refine X971.iloadN (x := (6 : Int32)) (D d22_33) rfl ?_
  refine X971.iinc #[.val (.ref r), .val (.int (7 : Int32))] (D d22_34) rfl rfl ?_
  show Goes p.tables e below _ (T970.setTop (mkF m 37 #[.val (.ref r), .val (.int (7 : Int32))] [(.int (6 : Int32)), (.ref r)]))
  refine X971.baload (v := (.int (StrChars.lo8 c3))) A0 ⟨by decide, by decide⟩ rfl (D d22_37) ?_
  refine X971.sipush (x := (255 : Int32)) (D d22_38) rfl ?_
  refine X971.iand (D d22_41) ?_
  refine X971.gets (w 99 rfl) Via.refl (Sta.ext X971.old.2 SH) (D d22_42) ?_
  intro T973 X974
  refine X974.ishl (D d22_45) ?_
  refine X974.aloadN (x := (.ref r)) (D d22_46) rfl rfl ?_
  refine X974.iloadN (x := (7 : Int32)) (D d22_47) rfl ?_
  show Goes p.tables e below _ (T973.setTop (mkF m 48 #[.val (.ref r), .val (.int (7 : Int32))] [(.int (7 : Int32)), (.ref r), (.int (((StrChars.lo8 c3) &&& (255 : Int32)) <<< ((0 : Int32) &&& 31)))]))
  refine X974.baload (v := (.int (StrChars.hi8 c3))) A0 ⟨by decide, by decide⟩ rfl (D d22_48) ?_
  refine X974.sipush (x := (255 : Int32)) (D d22_49) rfl ?_
  refine X974.iand (D d22_52) ?_
  refine X974.gets (w 100 rfl) Via.refl (Sta.ext X974.old.2 SL) (D d22_53) ?_
  intro T975 X976
  refine X976.ishl (D d22_56) ?_
  refine X976.ior (D d22_57) ?_
  refine X976.i2c (D d22_58) ?_
  exact X976.reti hret (by simp) hlk (D d22_59) (by decide) (by decide) (ret_pair r3)
set_option maxRecDepth 65536 in
set_option maxHeartbeats 40000000 in
theorem ctC3_4 (l : Launch) (Z : State) (a0 : Array Value) (hw : ∀ d ∈ tables_1, d.before a0 Z = true) (hEL : EW Z a0 consts_1) (z0 : Int32) (S0 : Sta Z Z.heap "java/lang/String" "COMPACT_STRINGS" "Z" (.int z0)) (hz0 : ¬ z0 = 0) (SA1 : Sta Z Z.heap "java/lang/StringUTF16" "$assertionsDisabled" "Z" (.int (1 : Int32))) (SH : Sta Z Z.heap "java/lang/StringUTF16" "HI_BYTE_SHIFT" "I" (.int (0 : Int32))) (SL : Sta Z Z.heap "java/lang/StringUTF16" "LO_BYTE_SHIFT" "I" (.int (8 : Int32))) (b : Addr) (kb : ClassId) (dv : Value) (c0 c1 c2 c3 : Int32) (h0 : Heap) (n0 : Nat) (A0 : Arv Z h0 b kb .char (4 : Int32) [(.int c0), (.int c1), (.int c2), (.int c3)] dv) (r0 : Rc c0) (r1 : Rc c1) (r2 : Rc c2) (r3 : Rc c3) (hwide : ¬ ∀ c ∈ [c0, c1, c2, c3], ¬ (255 : Int32) < c) :
    Ct l Z consts_1 [] (⟨"java/lang/StringUTF16", "compress", "([CII)[B"⟩ : MethodName) jdk_52_method_16_code 6 (some (.array .byte)) ({ frames := 3, cells := 2, slots := 12, locals := 40 } : Room) #[(.ref b), (.int (0 : Int32)), (.int (4 : Int32))] h0 n0 [] (fun v h => ∃ (r : Addr) (kr : ClassId), v = some (.ref r) ∧ Arv Z h r kr .byte (8 : Int32) [(.int (StrChars.lo8 c0)), (.int (StrChars.hi8 c0)), (.int (StrChars.lo8 c1)), (.int (StrChars.hi8 c1)), (.int (StrChars.lo8 c2)), (.int (StrChars.hi8 c2)), (.int (StrChars.lo8 c3)), (.int (StrChars.hi8 c3))] (.int (0 : Int32))) := by
  have w : ∀ {d : Jvm.Cond} (i : Nat), tables_1[i]? = some d → d.before a0 Z = true := fun i q => hw _ (List.mem_of_getElem? q)
  refine Ct.enter (plainFor_of_name pn_2) hEL ?_
  intro p e sS m below meth c T0 hby hml0 hret hlk hnm hs0 X0
  have hml : c.maxLocals = 6 := hml0
  have D : ∀ {pc : Nat} {r : Except DecodeError (Instr × Nat)}, decode jdk_52_method_16_code pc = r → decode c.code pc = r := fun q => hb hby q
  rw [show entryFrame m #[(.ref b), (.int (0 : Int32)), (.int (4 : Int32))] 6 = mkF m 0 #[.val (.ref b), .val (.int (0 : Int32)), .val (.int (4 : Int32)), .unset, .unset, .unset] [] from by first | (simp [entryFrame, mkF, argsToLocals, Value.category]; done) | rfl]
  refine X0.iloadN (x := (4 : Int32)) (D d7_0) rfl ?_
  refine X0.newarr (w 23 rfl) (n := (4 : Int32)) (D d7_1) (by decide) 4 (by decide) (by decide) (by decide) (by decide) ?_
  intro T977 h978 b979 kb980 g981 X982 E983 A984
  have F985 := A0.ext E983
  have lt986 : b < b979 := by rw [g981]; exact A0.lt
  have F987 : Arv Z h978 b979 kb980 .byte (4 : Int32) [(.int (0 : Int32)), (.int (0 : Int32)), (.int (0 : Int32)), (.int (0 : Int32))] (.int (0 : Int32)) := A984.pad (pad_rep [] (.int (0 : Int32)) 4)
  refine X982.astoreN #[.val (.ref b), .val (.int (0 : Int32)), .val (.int (4 : Int32)), .val (.ref b979), .unset, .unset] (D d7_3) rfl rfl ?_
  refine X982.aloadN (x := (.ref b)) (D d7_4) rfl rfl ?_
  refine X982.iloadN (x := (0 : Int32)) (D d7_5) rfl ?_
  refine X982.aloadN (x := (.ref b979)) (D d7_6) rfl rfl ?_
  refine X982.iconst (x := (0 : Int32)) (D d7_7) rfl ?_
  refine X982.iloadN (x := (4 : Int32)) (D d7_8) rfl ?_
  show Goes p.tables e below _ (T977.setTop (mkF m 9 #[.val (.ref b), .val (.int (0 : Int32)), .val (.int (4 : Int32)), .val (.ref b979), .unset, .unset] [(.int (4 : Int32)), (.int (0 : Int32)), (.ref b979), (.int (0 : Int32)), (.ref b)]))
  by_cases hj0 : (255 : Int32) < c0
  · show Goes p.tables e below _ (T977.setTop (mkF m 9 #[.val (.ref b), .val (.int (0 : Int32)), .val (.int (4 : Int32)), .val (.ref b979), .unset, .unset] [(.int (4 : Int32)), (.int (0 : Int32)), (.ref b979), (.int (0 : Int32)), (.ref b)]))
    refine X982.calls [(.ref b), (.int (0 : Int32)), (.ref b979), (.int (0 : Int32)), (.int (4 : Int32))] [] (ctC5_4_0 l Z a0 hw hEL z0 S0 hz0 b b979 _ _ _ c0 c1 c2 c3 _ _ F985 F987 hj0) (w 44 rfl) (w 45 rfl) (w 42 rfl) (w 46 rfl) (by decide) (by simp) (by decide) 0 (by decide) (by decide) (by decide) (lenOf pd_5 rfl) rfl (leb rfl) (by rw [hml]; rfl) (D d7_9) ?_
    rintro T988 h989 _ X991 K992 rfl
    have F993 := F985.keep K992 (ninS (Nat.ne_of_lt lt986) nin0)
    show Goes p.tables e below _ (T988.setTop (mkF m 12 #[.val (.ref b), .val (.int (0 : Int32)), .val (.int (4 : Int32)), .val (.ref b979), .unset, .unset] [(.int (0 : Int32))]))
    refine X991.istore #[.val (.ref b), .val (.int (0 : Int32)), .val (.int (4 : Int32)), .val (.ref b979), .val (.int (0 : Int32)), .unset] (D d7_12) rfl ?_
    refine X991.iload (x := (0 : Int32)) (D d7_14) rfl ?_
    refine X991.iloadN (x := (4 : Int32)) (D d7_16) rfl ?_
    refine X991.icmp_eq 57 (D d7_17) ⟨by decide, by decide⟩ (fun hc994 => absurd hc994 (by decide)) (fun hc994 => ?_)
    refine X991.aloadN (x := (.ref b)) (D d7_20) rfl rfl ?_
    refine X991.iloadN (x := (0 : Int32)) (D d7_21) rfl ?_
    refine X991.iloadN (x := (4 : Int32)) (D d7_22) rfl ?_
    refine X991.calls [(.ref b), (.int (0 : Int32)), (.int (4 : Int32))] [] (ctTB4 l Z a0 hw hEL z0 S0 hz0 SA1 SH SL b _ _ c0 c1 c2 c3 _ _ F993) (w 85 rfl) (w 86 rfl) (w 42 rfl) (w 87 rfl) (by decide) (fun _ q => nomatch q) (by decide) 0 (by decide) (by decide) (by decide) (lenOf pd_6 rfl) rfl (leb rfl) (by rw [hml]; rfl) (D d7_23) ?_
    rintro T995 h996 _ X998 K999 ⟨r, kr, rfl, A9⟩
    have F1000 := F993.keep K999 nin0
    show Goes p.tables e below _ (T995.setTop (mkF m 26 #[.val (.ref b), .val (.int (0 : Int32)), .val (.int (4 : Int32)), .val (.ref b979), .val (.int (0 : Int32)), .unset] [(.ref r)]))
    refine X998.astore #[.val (.ref b), .val (.int (0 : Int32)), .val (.int (4 : Int32)), .val (.ref b979), .val (.int (0 : Int32)), .val (.ref r)] (D d7_26) rfl rfl ?_
    refine X998.aload (x := (.ref r)) (D d7_28) rfl rfl ?_
    refine X998.iload (x := (0 : Int32)) (D d7_30) rfl ?_
    refine X998.calls [(.ref r), (.int (0 : Int32))] [] (ctGC4_0 l Z a0 hw hEL z0 S0 hz0 SA1 SH SL r kr c0 c1 c2 c3 _ _ A9 r0) (w 101 rfl) (w 102 rfl) (w 42 rfl) (w 103 rfl) (by decide) (fun _ q => nomatch q) (by decide) 0 (by decide) (by decide) (by decide) (lenOf pd_7 rfl) rfl (leb rfl) (by rw [hml]; rfl) (D d7_32) ?_
    rintro T1001 h1002 _ X1004 K1005 rfl
    have F1006 := F1000.keep K1005 nin0
    have F1007 := A9.keep K1005 nin0
    show Goes p.tables e below _ (T1001.setTop (mkF m 35 #[.val (.ref b), .val (.int (0 : Int32)), .val (.int (4 : Int32)), .val (.ref b979), .val (.int (0 : Int32)), .val (.ref r)] [(.int c0)]))
    refine X1004.sipush (x := (255 : Int32)) (D d7_35) rfl ?_
    refine X1004.icmp_gt 54 (D d7_38) ⟨by decide, by decide⟩ (fun hn1008 => ?_) (fun hc => (hc hj0).elim)
    refine X1004.aload (x := (.ref r)) (D d7_54) rfl rfl ?_
    exact X1004.retA hret rfl rfl hlk (D d7_56) (by decide) (by decide) (⟨r, kr, rfl, F1007⟩)
  · show Goes p.tables e below _ (T977.setTop (mkF m 9 #[.val (.ref b), .val (.int (0 : Int32)), .val (.int (4 : Int32)), .val (.ref b979), .unset, .unset] [(.int (4 : Int32)), (.int (0 : Int32)), (.ref b979), (.int (0 : Int32)), (.ref b)]))
    show Goes p.tables e below _ (T977.setTop (mkF m 9 #[.val (.ref b), .val (.int (0 : Int32)), .val (.int (4 : Int32)), .val (.ref b979), .unset, .unset] [(.int (4 : Int32)), (.int (0 : Int32)), (.ref b979), (.int (0 : Int32)), (.ref b)]))
    by_cases hj1 : (255 : Int32) < c1
    · show Goes p.tables e below _ (T977.setTop (mkF m 9 #[.val (.ref b), .val (.int (0 : Int32)), .val (.int (4 : Int32)), .val (.ref b979), .unset, .unset] [(.int (4 : Int32)), (.int (0 : Int32)), (.ref b979), (.int (0 : Int32)), (.ref b)]))
      refine X982.calls [(.ref b), (.int (0 : Int32)), (.ref b979), (.int (0 : Int32)), (.int (4 : Int32))] [] (ctC5_4_1 l Z a0 hw hEL z0 S0 hz0 b b979 _ _ _ c0 c1 c2 c3 _ _ F985 F987 hj1 hj0) (w 44 rfl) (w 45 rfl) (w 42 rfl) (w 46 rfl) (by decide) (by simp) (by decide) 0 (by decide) (by decide) (by decide) (lenOf pd_5 rfl) rfl (leb rfl) (by rw [hml]; rfl) (D d7_9) ?_
      rintro T1009 h1010 _ X1012 K1013 rfl
      have F1014 := F985.keep K1013 (ninS (Nat.ne_of_lt lt986) nin0)
      show Goes p.tables e below _ (T1009.setTop (mkF m 12 #[.val (.ref b), .val (.int (0 : Int32)), .val (.int (4 : Int32)), .val (.ref b979), .unset, .unset] [(.int (1 : Int32))]))
      refine X1012.istore #[.val (.ref b), .val (.int (0 : Int32)), .val (.int (4 : Int32)), .val (.ref b979), .val (.int (1 : Int32)), .unset] (D d7_12) rfl ?_
      refine X1012.iload (x := (1 : Int32)) (D d7_14) rfl ?_
      refine X1012.iloadN (x := (4 : Int32)) (D d7_16) rfl ?_
      refine X1012.icmp_eq 57 (D d7_17) ⟨by decide, by decide⟩ (fun hc1015 => absurd hc1015 (by decide)) (fun hc1015 => ?_)
      refine X1012.aloadN (x := (.ref b)) (D d7_20) rfl rfl ?_
      refine X1012.iloadN (x := (0 : Int32)) (D d7_21) rfl ?_
      refine X1012.iloadN (x := (4 : Int32)) (D d7_22) rfl ?_
      refine X1012.calls [(.ref b), (.int (0 : Int32)), (.int (4 : Int32))] [] (ctTB4 l Z a0 hw hEL z0 S0 hz0 SA1 SH SL b _ _ c0 c1 c2 c3 _ _ F1014) (w 85 rfl) (w 86 rfl) (w 42 rfl) (w 87 rfl) (by decide) (fun _ q => nomatch q) (by decide) 0 (by decide) (by decide) (by decide) (lenOf pd_6 rfl) rfl (leb rfl) (by rw [hml]; rfl) (D d7_23) ?_
      rintro T1016 h1017 _ X1019 K1020 ⟨r, kr, rfl, A9⟩
      have F1021 := F1014.keep K1020 nin0
      show Goes p.tables e below _ (T1016.setTop (mkF m 26 #[.val (.ref b), .val (.int (0 : Int32)), .val (.int (4 : Int32)), .val (.ref b979), .val (.int (1 : Int32)), .unset] [(.ref r)]))
      refine X1019.astore #[.val (.ref b), .val (.int (0 : Int32)), .val (.int (4 : Int32)), .val (.ref b979), .val (.int (1 : Int32)), .val (.ref r)] (D d7_26) rfl rfl ?_
      refine X1019.aload (x := (.ref r)) (D d7_28) rfl rfl ?_
      refine X1019.iload (x := (1 : Int32)) (D d7_30) rfl ?_
      refine X1019.calls [(.ref r), (.int (1 : Int32))] [] (ctGC4_1 l Z a0 hw hEL z0 S0 hz0 SA1 SH SL r kr c0 c1 c2 c3 _ _ A9 r1) (w 101 rfl) (w 102 rfl) (w 42 rfl) (w 103 rfl) (by decide) (fun _ q => nomatch q) (by decide) 0 (by decide) (by decide) (by decide) (lenOf pd_7 rfl) rfl (leb rfl) (by rw [hml]; rfl) (D d7_32) ?_
      rintro T1022 h1023 _ X1025 K1026 rfl
      have F1027 := F1021.keep K1026 nin0
      have F1028 := A9.keep K1026 nin0
      show Goes p.tables e below _ (T1022.setTop (mkF m 35 #[.val (.ref b), .val (.int (0 : Int32)), .val (.int (4 : Int32)), .val (.ref b979), .val (.int (1 : Int32)), .val (.ref r)] [(.int c1)]))
      refine X1025.sipush (x := (255 : Int32)) (D d7_35) rfl ?_
      refine X1025.icmp_gt 54 (D d7_38) ⟨by decide, by decide⟩ (fun hn1029 => ?_) (fun hc => (hc hj1).elim)
      refine X1025.aload (x := (.ref r)) (D d7_54) rfl rfl ?_
      exact X1025.retA hret rfl rfl hlk (D d7_56) (by decide) (by decide) (⟨r, kr, rfl, F1028⟩)
    · show Goes p.tables e below _ (T977.setTop (mkF m 9 #[.val (.ref b), .val (.int (0 : Int32)), .val (.int (4 : Int32)), .val (.ref b979), .unset, .unset] [(.int (4 : Int32)), (.int (0 : Int32)), (.ref b979), (.int (0 : Int32)), (.ref b)]))
      show Goes p.tables e below _ (T977.setTop (mkF m 9 #[.val (.ref b), .val (.int (0 : Int32)), .val (.int (4 : Int32)), .val (.ref b979), .unset, .unset] [(.int (4 : Int32)), (.int (0 : Int32)), (.ref b979), (.int (0 : Int32)), (.ref b)]))
      by_cases hj2 : (255 : Int32) < c2
      · show Goes p.tables e below _ (T977.setTop (mkF m 9 #[.val (.ref b), .val (.int (0 : Int32)), .val (.int (4 : Int32)), .val (.ref b979), .unset, .unset] [(.int (4 : Int32)), (.int (0 : Int32)), (.ref b979), (.int (0 : Int32)), (.ref b)]))
        refine X982.calls [(.ref b), (.int (0 : Int32)), (.ref b979), (.int (0 : Int32)), (.int (4 : Int32))] [] (ctC5_4_2 l Z a0 hw hEL z0 S0 hz0 b b979 _ _ _ c0 c1 c2 c3 _ _ F985 F987 hj2 hj0 hj1) (w 44 rfl) (w 45 rfl) (w 42 rfl) (w 46 rfl) (by decide) (by simp) (by decide) 0 (by decide) (by decide) (by decide) (lenOf pd_5 rfl) rfl (leb rfl) (by rw [hml]; rfl) (D d7_9) ?_
        rintro T1030 h1031 _ X1033 K1034 rfl
        have F1035 := F985.keep K1034 (ninS (Nat.ne_of_lt lt986) nin0)
        show Goes p.tables e below _ (T1030.setTop (mkF m 12 #[.val (.ref b), .val (.int (0 : Int32)), .val (.int (4 : Int32)), .val (.ref b979), .unset, .unset] [(.int (2 : Int32))]))
        refine X1033.istore #[.val (.ref b), .val (.int (0 : Int32)), .val (.int (4 : Int32)), .val (.ref b979), .val (.int (2 : Int32)), .unset] (D d7_12) rfl ?_
        refine X1033.iload (x := (2 : Int32)) (D d7_14) rfl ?_
        refine X1033.iloadN (x := (4 : Int32)) (D d7_16) rfl ?_
        refine X1033.icmp_eq 57 (D d7_17) ⟨by decide, by decide⟩ (fun hc1036 => absurd hc1036 (by decide)) (fun hc1036 => ?_)
        refine X1033.aloadN (x := (.ref b)) (D d7_20) rfl rfl ?_
        refine X1033.iloadN (x := (0 : Int32)) (D d7_21) rfl ?_
        refine X1033.iloadN (x := (4 : Int32)) (D d7_22) rfl ?_
        refine X1033.calls [(.ref b), (.int (0 : Int32)), (.int (4 : Int32))] [] (ctTB4 l Z a0 hw hEL z0 S0 hz0 SA1 SH SL b _ _ c0 c1 c2 c3 _ _ F1035) (w 85 rfl) (w 86 rfl) (w 42 rfl) (w 87 rfl) (by decide) (fun _ q => nomatch q) (by decide) 0 (by decide) (by decide) (by decide) (lenOf pd_6 rfl) rfl (leb rfl) (by rw [hml]; rfl) (D d7_23) ?_
        rintro T1037 h1038 _ X1040 K1041 ⟨r, kr, rfl, A9⟩
        have F1042 := F1035.keep K1041 nin0
        show Goes p.tables e below _ (T1037.setTop (mkF m 26 #[.val (.ref b), .val (.int (0 : Int32)), .val (.int (4 : Int32)), .val (.ref b979), .val (.int (2 : Int32)), .unset] [(.ref r)]))
        refine X1040.astore #[.val (.ref b), .val (.int (0 : Int32)), .val (.int (4 : Int32)), .val (.ref b979), .val (.int (2 : Int32)), .val (.ref r)] (D d7_26) rfl rfl ?_
        refine X1040.aload (x := (.ref r)) (D d7_28) rfl rfl ?_
        refine X1040.iload (x := (2 : Int32)) (D d7_30) rfl ?_
        refine X1040.calls [(.ref r), (.int (2 : Int32))] [] (ctGC4_2 l Z a0 hw hEL z0 S0 hz0 SA1 SH SL r kr c0 c1 c2 c3 _ _ A9 r2) (w 101 rfl) (w 102 rfl) (w 42 rfl) (w 103 rfl) (by decide) (fun _ q => nomatch q) (by decide) 0 (by decide) (by decide) (by decide) (lenOf pd_7 rfl) rfl (leb rfl) (by rw [hml]; rfl) (D d7_32) ?_
        rintro T1043 h1044 _ X1046 K1047 rfl
        have F1048 := F1042.keep K1047 nin0
        have F1049 := A9.keep K1047 nin0
        show Goes p.tables e below _ (T1043.setTop (mkF m 35 #[.val (.ref b), .val (.int (0 : Int32)), .val (.int (4 : Int32)), .val (.ref b979), .val (.int (2 : Int32)), .val (.ref r)] [(.int c2)]))
        refine X1046.sipush (x := (255 : Int32)) (D d7_35) rfl ?_
        refine X1046.icmp_gt 54 (D d7_38) ⟨by decide, by decide⟩ (fun hn1050 => ?_) (fun hc => (hc hj2).elim)
        refine X1046.aload (x := (.ref r)) (D d7_54) rfl rfl ?_
        exact X1046.retA hret rfl rfl hlk (D d7_56) (by decide) (by decide) (⟨r, kr, rfl, F1049⟩)
      · show Goes p.tables e below _ (T977.setTop (mkF m 9 #[.val (.ref b), .val (.int (0 : Int32)), .val (.int (4 : Int32)), .val (.ref b979), .unset, .unset] [(.int (4 : Int32)), (.int (0 : Int32)), (.ref b979), (.int (0 : Int32)), (.ref b)]))
        show Goes p.tables e below _ (T977.setTop (mkF m 9 #[.val (.ref b), .val (.int (0 : Int32)), .val (.int (4 : Int32)), .val (.ref b979), .unset, .unset] [(.int (4 : Int32)), (.int (0 : Int32)), (.ref b979), (.int (0 : Int32)), (.ref b)]))
        by_cases hj3 : (255 : Int32) < c3
        · show Goes p.tables e below _ (T977.setTop (mkF m 9 #[.val (.ref b), .val (.int (0 : Int32)), .val (.int (4 : Int32)), .val (.ref b979), .unset, .unset] [(.int (4 : Int32)), (.int (0 : Int32)), (.ref b979), (.int (0 : Int32)), (.ref b)]))
          refine X982.calls [(.ref b), (.int (0 : Int32)), (.ref b979), (.int (0 : Int32)), (.int (4 : Int32))] [] (ctC5_4_3 l Z a0 hw hEL z0 S0 hz0 b b979 _ _ _ c0 c1 c2 c3 _ _ F985 F987 hj3 hj0 hj1 hj2) (w 44 rfl) (w 45 rfl) (w 42 rfl) (w 46 rfl) (by decide) (by simp) (by decide) 0 (by decide) (by decide) (by decide) (lenOf pd_5 rfl) rfl (leb rfl) (by rw [hml]; rfl) (D d7_9) ?_
          rintro T1051 h1052 _ X1054 K1055 rfl
          have F1056 := F985.keep K1055 (ninS (Nat.ne_of_lt lt986) nin0)
          show Goes p.tables e below _ (T1051.setTop (mkF m 12 #[.val (.ref b), .val (.int (0 : Int32)), .val (.int (4 : Int32)), .val (.ref b979), .unset, .unset] [(.int (3 : Int32))]))
          refine X1054.istore #[.val (.ref b), .val (.int (0 : Int32)), .val (.int (4 : Int32)), .val (.ref b979), .val (.int (3 : Int32)), .unset] (D d7_12) rfl ?_
          refine X1054.iload (x := (3 : Int32)) (D d7_14) rfl ?_
          refine X1054.iloadN (x := (4 : Int32)) (D d7_16) rfl ?_
          refine X1054.icmp_eq 57 (D d7_17) ⟨by decide, by decide⟩ (fun hc1057 => absurd hc1057 (by decide)) (fun hc1057 => ?_)
          refine X1054.aloadN (x := (.ref b)) (D d7_20) rfl rfl ?_
          refine X1054.iloadN (x := (0 : Int32)) (D d7_21) rfl ?_
          refine X1054.iloadN (x := (4 : Int32)) (D d7_22) rfl ?_
          refine X1054.calls [(.ref b), (.int (0 : Int32)), (.int (4 : Int32))] [] (ctTB4 l Z a0 hw hEL z0 S0 hz0 SA1 SH SL b _ _ c0 c1 c2 c3 _ _ F1056) (w 85 rfl) (w 86 rfl) (w 42 rfl) (w 87 rfl) (by decide) (fun _ q => nomatch q) (by decide) 0 (by decide) (by decide) (by decide) (lenOf pd_6 rfl) rfl (leb rfl) (by rw [hml]; rfl) (D d7_23) ?_
          rintro T1058 h1059 _ X1061 K1062 ⟨r, kr, rfl, A9⟩
          have F1063 := F1056.keep K1062 nin0
          show Goes p.tables e below _ (T1058.setTop (mkF m 26 #[.val (.ref b), .val (.int (0 : Int32)), .val (.int (4 : Int32)), .val (.ref b979), .val (.int (3 : Int32)), .unset] [(.ref r)]))
          refine X1061.astore #[.val (.ref b), .val (.int (0 : Int32)), .val (.int (4 : Int32)), .val (.ref b979), .val (.int (3 : Int32)), .val (.ref r)] (D d7_26) rfl rfl ?_
          refine X1061.aload (x := (.ref r)) (D d7_28) rfl rfl ?_
          refine X1061.iload (x := (3 : Int32)) (D d7_30) rfl ?_
          refine X1061.calls [(.ref r), (.int (3 : Int32))] [] (ctGC4_3 l Z a0 hw hEL z0 S0 hz0 SA1 SH SL r kr c0 c1 c2 c3 _ _ A9 r3) (w 101 rfl) (w 102 rfl) (w 42 rfl) (w 103 rfl) (by decide) (fun _ q => nomatch q) (by decide) 0 (by decide) (by decide) (by decide) (lenOf pd_7 rfl) rfl (leb rfl) (by rw [hml]; rfl) (D d7_32) ?_
          rintro T1064 h1065 _ X1067 K1068 rfl
          have F1069 := F1063.keep K1068 nin0
          have F1070 := A9.keep K1068 nin0
          show Goes p.tables e below _ (T1064.setTop (mkF m 35 #[.val (.ref b), .val (.int (0 : Int32)), .val (.int (4 : Int32)), .val (.ref b979), .val (.int (3 : Int32)), .val (.ref r)] [(.int c3)]))
          refine X1067.sipush (x := (255 : Int32)) (D d7_35) rfl ?_
          refine X1067.icmp_gt 54 (D d7_38) ⟨by decide, by decide⟩ (fun hn1071 => ?_) (fun hc => (hc hj3).elim)
          refine X1067.aload (x := (.ref r)) (D d7_54) rfl rfl ?_
          exact X1067.retA hret rfl rfl hlk (D d7_56) (by decide) (by decide) (⟨r, kr, rfl, F1070⟩)
        · show Goes p.tables e below _ (T977.setTop (mkF m 9 #[.val (.ref b), .val (.int (0 : Int32)), .val (.int (4 : Int32)), .val (.ref b979), .unset, .unset] [(.int (4 : Int32)), (.int (0 : Int32)), (.ref b979), (.int (0 : Int32)), (.ref b)]))
          exact (hwide (hpS hj0 (hpS hj1 (hpS hj2 (hpS hj3 hp0))))).elim
set_option maxRecDepth 65536 in
set_option maxHeartbeats 40000000 in
theorem ctCF4 (l : Launch) (Z : State) (a0 : Array Value) (hw : ∀ d ∈ tables_1, d.before a0 Z = true) (hEL : EW Z a0 consts_1) (z0 : Int32) (S0 : Sta Z Z.heap "java/lang/String" "COMPACT_STRINGS" "Z" (.int z0)) (hz0 : ¬ z0 = 0) (r : Addr) (kr : ClassId) (vs : List Value) (dv : Value) (h0 : Heap) (n0 : Nat) (A0 : Arv Z h0 r kr .byte (8 : Int32) vs dv) :
    Ct l Z consts_1 [] (⟨"java/lang/StringUTF16", "coderFromArrayLen", "([BI)B"⟩ : MethodName) jdk_52_method_15_code 2 (some .byte) ({ frames := 0, cells := 0, slots := 0, locals := 0 } : Room) #[(.ref r), (.int (4 : Int32))] h0 n0 [] (fun v _ => v = some (.int (1 : Int32))) := by
  have w : ∀ {d : Jvm.Cond} (i : Nat), tables_1[i]? = some d → d.before a0 Z = true := fun i q => hw _ (List.mem_of_getElem? q)
  refine Ct.enter (plainFor_of_name pn_2) hEL ?_
  intro p e sS m below meth c T0 hby hml0 hret hlk hnm hs0 X0
  have hml : c.maxLocals = 2 := hml0
  have D : ∀ {pc : Nat} {r : Except DecodeError (Instr × Nat)}, decode jdk_52_method_15_code pc = r → decode c.code pc = r := fun q => hb hby q
  rw [show entryFrame m #[(.ref r), (.int (4 : Int32))] 2 = mkF m 0 #[.val (.ref r), .val (.int (4 : Int32))] [] from by first | (simp [entryFrame, mkF, argsToLocals, Value.category]; done) | rfl]
  refine X0.iloadN (x := (4 : Int32)) (D d9_0) rfl ?_
  refine X0.aloadN (x := (.ref r)) (D d9_1) rfl rfl ?_
  refine X0.alen A0 (D d9_2) ?_
  refine X0.isub (D d9_3) ?_
  show Goes p.tables e below _ (T0.setTop (mkF m 4 #[.val (.ref r), .val (.int (4 : Int32))] [(.int (-4 : Int32))]))
  refine X0.bipush (x := (31 : Int32)) (D d9_4) rfl ?_
  refine X0.iushr (D d9_6) ?_
  show Goes p.tables e below _ (T0.setTop (mkF m 7 #[.val (.ref r), .val (.int (4 : Int32))] [(.int (1 : Int32))]))
  refine X0.i2b (D d9_7) ?_
  show Goes p.tables e below _ (T0.setTop (mkF m 8 #[.val (.ref r), .val (.int (4 : Int32))] [(.int (1 : Int32))]))
  exact X0.reti hret (by simp) hlk (D d9_8) (by decide) (by decide) (rfl)
set_option maxRecDepth 65536 in
set_option maxHeartbeats 40000000 in
theorem ctI4_4 (l : Launch) (Z : State) (a0 : Array Value) (hw : ∀ d ∈ tables_1, d.before a0 Z = true) (hEL : EW Z a0 consts_1) (z0 : Int32) (S0 : Sta Z Z.heap "java/lang/String" "COMPACT_STRINGS" "Z" (.int z0)) (hz0 : ¬ z0 = 0) (SA1 : Sta Z Z.heap "java/lang/StringUTF16" "$assertionsDisabled" "Z" (.int (1 : Int32))) (SH : Sta Z Z.heap "java/lang/StringUTF16" "HI_BYTE_SHIFT" "I" (.int (0 : Int32))) (SL : Sta Z Z.heap "java/lang/StringUTF16" "LO_BYTE_SHIFT" "I" (.int (8 : Int32))) (a b : Addr) (kb : ClassId) (dv : Value) (c0 c1 c2 c3 : Int32) (h0 : Heap) (n0 : Nat) (E0 : Exa Z h0 a "java/lang/String") (F0 : Fld Z h0 a "java/lang/String" "value" "[B" .null) (F1 : Fld Z h0 a "java/lang/String" "coder" "B" (.int (0 : Int32))) (A0 : Arv Z h0 b kb .char (4 : Int32) [(.int c0), (.int c1), (.int c2), (.int c3)] dv) (r0 : Rc c0) (r1 : Rc c1) (r2 : Rc c2) (r3 : Rc c3) (hwide : ¬ ∀ c ∈ [c0, c1, c2, c3], ¬ (255 : Int32) < c) :
    Ct l Z consts_1 [] (⟨"java/lang/String", "<init>", "([CIILjava/lang/Void;)V"⟩ : MethodName) jdk_42_method_149_code 6 none ({ frames := 4, cells := 2, slots := 12, locals := 57 } : Room) #[(.ref a), (.ref b), (.int (0 : Int32)), (.int (4 : Int32)), .null] h0 n0 [a] (fun v h => v = none ∧ ∃ t : Addr, UStr Z h a t [c0, c1, c2, c3]) := by
  have w : ∀ {d : Jvm.Cond} (i : Nat), tables_1[i]? = some d → d.before a0 Z = true := fun i q => hw _ (List.mem_of_getElem? q)
  refine Ct.enter (plainFor_of_name pn_1) hEL ?_
  intro p e sS m below meth c T0 hby hml0 hret hlk hnm hs0 X0
  have hml : c.maxLocals = 6 := hml0
  have D : ∀ {pc : Nat} {r : Except DecodeError (Instr × Nat)}, decode jdk_42_method_149_code pc = r → decode c.code pc = r := fun q => hb hby q
  rw [show entryFrame m #[(.ref a), (.ref b), (.int (0 : Int32)), (.int (4 : Int32)), .null] 6 = mkF m 0 #[.val (.ref a), .val (.ref b), .val (.int (0 : Int32)), .val (.int (4 : Int32)), .val .null, .unset] [] from by first | (simp [entryFrame, mkF, argsToLocals, Value.category]; done) | rfl]
  refine X0.aloadN (x := (.ref a)) (D d3_0) rfl rfl ?_
  refine X0.inito (w 19 rfl) (w 20 rfl) (w 21 rfl) (D d3_1) (by rw [hml]; rfl) (by decide) 0 (leb rfl) (by decide) ?_
  intro T1072 X1073
  refine X1073.iloadN (x := (4 : Int32)) (D d3_4) rfl ?_
  refine X1073.if_ne 27 (D d3_5) ⟨by decide, by decide⟩ (fun hc1074 => ?_) (fun hc1074 => absurd hc1074 (by decide))
  refine X1073.gets (w 39 rfl) Via.refl (Sta.ext X1073.old.2 S0) (D d3_27) ?_
  intro T1075 X1076
  refine X1076.if_eq 58 (D d3_30) ⟨by decide, by decide⟩ (fun hc => (hz0 hc).elim) (fun hn1077 => ?_)
  refine X1076.aloadN (x := (.ref b)) (D d3_33) rfl rfl ?_
  refine X1076.iloadN (x := (0 : Int32)) (D d3_34) rfl ?_
  refine X1076.iloadN (x := (4 : Int32)) (D d3_35) rfl ?_
  refine X1076.calls [(.ref b), (.int (0 : Int32)), (.int (4 : Int32))] [] (ctC3_4 l Z a0 hw hEL z0 S0 hz0 SA1 SH SL b _ _ c0 c1 c2 c3 _ _ A0 r0 r1 r2 r3 hwide) (w 40 rfl) (w 41 rfl) (w 42 rfl) (w 43 rfl) (by decide) (fun _ q => nomatch q) (by decide) 0 (by decide) (by decide) (by decide) (lenOf pd_6 rfl) rfl (leb rfl) (by rw [hml]; rfl) (D d3_36) ?_
  rintro T1078 h1079 _ X1081 K1082 ⟨r, kr, rfl, A9⟩
  have F1083 := E0.keep K1082
  have F1084 := F0.keep K1082 nin0
  have F1085 := F1.keep K1082 nin0
  have F1086 := A0.keep K1082 nin0
  show Goes p.tables e below _ (T1078.setTop (mkF m 39 #[.val (.ref a), .val (.ref b), .val (.int (0 : Int32)), .val (.int (4 : Int32)), .val .null, .unset] [(.ref r)]))
  refine X1081.astore #[.val (.ref a), .val (.ref b), .val (.int (0 : Int32)), .val (.int (4 : Int32)), .val .null, .val (.ref r)] (D d3_39) rfl rfl ?_
  refine X1081.aloadN (x := (.ref a)) (D d3_41) rfl rfl ?_
  refine X1081.aload (x := (.ref r)) (D d3_42) rfl rfl ?_
  refine X1081.iloadN (x := (4 : Int32)) (D d3_44) rfl ?_
  refine X1081.calls [(.ref r), (.int (4 : Int32))] [(.ref a)] (ctCF4 l Z a0 hw hEL z0 S0 hz0 r kr _ _ _ _ A9) (w 47 rfl) (w 48 rfl) (w 42 rfl) (w 49 rfl) (by decide) (fun _ q => nomatch q) (by decide) 1 (by decide) (by decide) (by decide) (lenOf pd_8 rfl) rfl (leb rfl) (by rw [hml]; rfl) (D d3_45) ?_
  rintro T1087 h1088 _ X1090 K1091 rfl
  have F1092 := F1083.keep K1091
  have F1093 := F1084.keep K1091 nin0
  have F1094 := F1085.keep K1091 nin0
  have F1095 := F1086.keep K1091 nin0
  have F1096 := A9.keep K1091 nin0
  show Goes p.tables e below _ (T1087.setTop (mkF m 48 #[.val (.ref a), .val (.ref b), .val (.int (0 : Int32)), .val (.int (4 : Int32)), .val .null, .val (.ref r)] [(.int (1 : Int32)), (.ref a)]))
  refine X1090.putf (w 29 rfl) Via.refl F1094 F1092 (Or.inr ⟨(w 25 rfl), rfl, hnm⟩) (w 9 rfl) (ty := .byte) (by decide) rfl rfl (D d3_48) (by simp) ?_
  intro T1097 h1098 X1099 W1100
  have F1101 := F1094.same W1100
  have F1102 := F1092.wr W1100
  have F1103 := F1093.other W1100 (Or.inr (slot_ne (t := (.array .byte)) (t' := .byte) (Or.inr (w 24 rfl)) (Or.inr (w 25 rfl)) (by decide) (by decide) (by decide)))
  have F1104 := F1095.other W1100 (Exa.neArv F1092 F1095 (w 9 rfl)).symm
  have F1105 := F1096.other W1100 (Exa.neArv F1092 F1096 (w 9 rfl)).symm
  refine X1099.aloadN (x := (.ref a)) (D d3_51) rfl rfl ?_
  refine X1099.aload (x := (.ref r)) (D d3_52) rfl rfl ?_
  refine X1099.putf (w 28 rfl) Via.refl F1103 F1102 (Or.inr ⟨(w 24 rfl), rfl, hnm⟩) (w 9 rfl) (ty := (.array .byte)) (by decide) rfl rfl (D d3_54) (by simp) ?_
  intro T1106 h1107 X1108 W1109
  have F1110 := F1103.same W1109
  have F1111 := F1102.wr W1109
  have F1112 := F1104.other W1109 (Exa.neArv F1102 F1104 (w 9 rfl)).symm
  have F1113 := F1105.other W1109 (Exa.neArv F1102 F1105 (w 9 rfl)).symm
  have F1114 := F1101.other W1109 (Or.inr (slot_ne (t := .byte) (t' := (.array .byte)) (Or.inr (w 25 rfl)) (Or.inr (w 24 rfl)) (by decide) (by decide) (by decide)))
  exact X1108.retn hret hlk (D d3_57) (by decide) (by decide) (⟨rfl, r, F1111, kr, F1110, F1114, F1113⟩)
set_option maxRecDepth 65536 in
set_option maxHeartbeats 40000000 in
theorem ctI1_4 (l : Launch) (Z : State) (a0 : Array Value) (hw : ∀ d ∈ tables_1, d.before a0 Z = true) (hEL : EW Z a0 consts_1) (z0 : Int32) (S0 : Sta Z Z.heap "java/lang/String" "COMPACT_STRINGS" "Z" (.int z0)) (hz0 : ¬ z0 = 0) (SA1 : Sta Z Z.heap "java/lang/StringUTF16" "$assertionsDisabled" "Z" (.int (1 : Int32))) (SH : Sta Z Z.heap "java/lang/StringUTF16" "HI_BYTE_SHIFT" "I" (.int (0 : Int32))) (SL : Sta Z Z.heap "java/lang/StringUTF16" "LO_BYTE_SHIFT" "I" (.int (8 : Int32))) (a b : Addr) (kb : ClassId) (dv : Value) (c0 c1 c2 c3 : Int32) (h0 : Heap) (n0 : Nat) (E0 : Exa Z h0 a "java/lang/String") (F0 : Fld Z h0 a "java/lang/String" "value" "[B" .null) (F1 : Fld Z h0 a "java/lang/String" "coder" "B" (.int (0 : Int32))) (A0 : Arv Z h0 b kb .char (4 : Int32) [(.int c0), (.int c1), (.int c2), (.int c3)] dv) (r0 : Rc c0) (r1 : Rc c1) (r2 : Rc c2) (r3 : Rc c3) (hwide : ¬ ∀ c ∈ [c0, c1, c2, c3], ¬ (255 : Int32) < c) :
    Ct l Z consts_1 [] (⟨"java/lang/String", "<init>", "([C)V"⟩ : MethodName) jdk_42_method_3_code 2 none ({ frames := 5, cells := 2, slots := 12, locals := 74 } : Room) #[(.ref a), (.ref b)] h0 n0 [a] (fun v h => v = none ∧ ∃ t : Addr, UStr Z h a t [c0, c1, c2, c3]) := by
  have w : ∀ {d : Jvm.Cond} (i : Nat), tables_1[i]? = some d → d.before a0 Z = true := fun i q => hw _ (List.mem_of_getElem? q)
  refine Ct.enter (plainFor_of_name pn_1) hEL ?_
  intro p e sS m below meth c T0 hby hml0 hret hlk hnm hs0 X0
  have hml : c.maxLocals = 2 := hml0
  have D : ∀ {pc : Nat} {r : Except DecodeError (Instr × Nat)}, decode jdk_42_method_3_code pc = r → decode c.code pc = r := fun q => hb hby q
  rw [show entryFrame m #[(.ref a), (.ref b)] 2 = mkF m 0 #[.val (.ref a), .val (.ref b)] [] from by first | (simp [entryFrame, mkF, argsToLocals, Value.category]; done) | rfl]
  refine X0.aloadN (x := (.ref a)) (D d2_0) rfl rfl ?_
  refine X0.aloadN (x := (.ref b)) (D d2_1) rfl rfl ?_
  refine X0.iconst (x := (0 : Int32)) (D d2_2) rfl ?_
  refine X0.aloadN (x := (.ref b)) (D d2_3) rfl rfl ?_
  refine X0.alen A0 (D d2_4) ?_
  refine X0.anull (D d2_5) ?_
  refine X0.callc (a := a) [(.ref b), (.int (0 : Int32)), (.int (4 : Int32)), .null] [] (ctI4_4 l Z a0 hw hEL z0 S0 hz0 SA1 SH SL a b _ _ c0 c1 c2 c3 _ _ E0 F0 F1 A0 r0 r1 r2 r3 hwide) rfl (w 15 rfl) (w 16 rfl) (w 10 rfl) (w 18 rfl) (by decide) (by simp) (by decide) 0 (by decide) (by decide) (by decide) (lenOf pd_1 rfl) rfl (leb rfl) (by rw [hml]; rfl) (D d2_6) ?_
  rintro T1115 h1116 _ X1118 K1119 ⟨rfl, t, O⟩
  have F1120 := E0.keep K1119
  have F1121 := A0.keep K1119 (ninS (Exa.neArv E0 A0 (w 9 rfl)).symm nin0)
  show Goes p.tables e below _ (T1115.setTop (mkF m 9 #[.val (.ref a), .val (.ref b)] []))
  exact X1118.retn hret hlk (D d2_9) (by decide) (by decide) (⟨rfl, t, O⟩)
theorem d1_0 : decode method_5_code 0 = .ok (.iload_n 0, 1) := by decide +kernel
theorem d1_1 : decode method_5_code 1 = .ok (.ifCond .ne 14, 3) := by decide +kernel
theorem d1_4 : decode method_5_code 4 = .ok (.new 28, 3) := by decide +kernel
theorem d1_7 : decode method_5_code 7 = .ok (.dup, 1) := by decide +kernel
theorem d1_8 : decode method_5_code 8 = .ok (.iconst 0, 1) := by decide +kernel
theorem d1_9 : decode method_5_code 9 = .ok (.newarray .char, 2) := by decide +kernel
theorem d1_11 : decode method_5_code 11 = .ok (.invokespecial 30, 3) := by decide +kernel
theorem d1_14 : decode method_5_code 14 = .ok (.areturn, 1) := by decide +kernel
theorem d1_15 : decode method_5_code 15 = .ok (.iload_n 0, 1) := by decide +kernel
theorem d1_16 : decode method_5_code 16 = .ok (.iconst 1, 1) := by decide +kernel
theorem d1_17 : decode method_5_code 17 = .ok (.if_icmp .ne 18, 3) := by decide +kernel
theorem d1_20 : decode method_5_code 20 = .ok (.new 28, 3) := by decide +kernel
theorem d1_23 : decode method_5_code 23 = .ok (.dup, 1) := by decide +kernel
theorem d1_24 : decode method_5_code 24 = .ok (.iconst 1, 1) := by decide +kernel
theorem d1_25 : decode method_5_code 25 = .ok (.newarray .char, 2) := by decide +kernel
theorem d1_27 : decode method_5_code 27 = .ok (.dup, 1) := by decide +kernel
theorem d1_28 : decode method_5_code 28 = .ok (.iconst 0, 1) := by decide +kernel
theorem d1_29 : decode method_5_code 29 = .ok (.iload_n 1, 1) := by decide +kernel
theorem d1_30 : decode method_5_code 30 = .ok (.castore, 1) := by decide +kernel
theorem d1_31 : decode method_5_code 31 = .ok (.invokespecial 30, 3) := by decide +kernel
theorem d1_34 : decode method_5_code 34 = .ok (.areturn, 1) := by decide +kernel
theorem d1_35 : decode method_5_code 35 = .ok (.iload_n 0, 1) := by decide +kernel
theorem d1_36 : decode method_5_code 36 = .ok (.iconst 2, 1) := by decide +kernel
theorem d1_37 : decode method_5_code 37 = .ok (.if_icmp .ne 22, 3) := by decide +kernel
theorem d1_40 : decode method_5_code 40 = .ok (.new 28, 3) := by decide +kernel
theorem d1_43 : decode method_5_code 43 = .ok (.dup, 1) := by decide +kernel
theorem d1_44 : decode method_5_code 44 = .ok (.iconst 2, 1) := by decide +kernel
theorem d1_45 : decode method_5_code 45 = .ok (.newarray .char, 2) := by decide +kernel
theorem d1_47 : decode method_5_code 47 = .ok (.dup, 1) := by decide +kernel
theorem d1_48 : decode method_5_code 48 = .ok (.iconst 0, 1) := by decide +kernel
theorem d1_49 : decode method_5_code 49 = .ok (.iload_n 1, 1) := by decide +kernel
theorem d1_50 : decode method_5_code 50 = .ok (.castore, 1) := by decide +kernel
theorem d1_51 : decode method_5_code 51 = .ok (.dup, 1) := by decide +kernel
theorem d1_52 : decode method_5_code 52 = .ok (.iconst 1, 1) := by decide +kernel
theorem d1_53 : decode method_5_code 53 = .ok (.iload_n 2, 1) := by decide +kernel
theorem d1_54 : decode method_5_code 54 = .ok (.castore, 1) := by decide +kernel
theorem d1_55 : decode method_5_code 55 = .ok (.invokespecial 30, 3) := by decide +kernel
theorem d1_58 : decode method_5_code 58 = .ok (.areturn, 1) := by decide +kernel
theorem d1_59 : decode method_5_code 59 = .ok (.iload_n 0, 1) := by decide +kernel
theorem d1_60 : decode method_5_code 60 = .ok (.iconst 3, 1) := by decide +kernel
theorem d1_61 : decode method_5_code 61 = .ok (.if_icmp .ne 26, 3) := by decide +kernel
theorem d1_64 : decode method_5_code 64 = .ok (.new 28, 3) := by decide +kernel
theorem d1_67 : decode method_5_code 67 = .ok (.dup, 1) := by decide +kernel
theorem d1_68 : decode method_5_code 68 = .ok (.iconst 3, 1) := by decide +kernel
theorem d1_69 : decode method_5_code 69 = .ok (.newarray .char, 2) := by decide +kernel
theorem d1_71 : decode method_5_code 71 = .ok (.dup, 1) := by decide +kernel
theorem d1_72 : decode method_5_code 72 = .ok (.iconst 0, 1) := by decide +kernel
theorem d1_73 : decode method_5_code 73 = .ok (.iload_n 1, 1) := by decide +kernel
theorem d1_74 : decode method_5_code 74 = .ok (.castore, 1) := by decide +kernel
theorem d1_75 : decode method_5_code 75 = .ok (.dup, 1) := by decide +kernel
theorem d1_76 : decode method_5_code 76 = .ok (.iconst 1, 1) := by decide +kernel
theorem d1_77 : decode method_5_code 77 = .ok (.iload_n 2, 1) := by decide +kernel
theorem d1_78 : decode method_5_code 78 = .ok (.castore, 1) := by decide +kernel
theorem d1_79 : decode method_5_code 79 = .ok (.dup, 1) := by decide +kernel
theorem d1_80 : decode method_5_code 80 = .ok (.iconst 2, 1) := by decide +kernel
theorem d1_81 : decode method_5_code 81 = .ok (.iload_n 3, 1) := by decide +kernel
theorem d1_82 : decode method_5_code 82 = .ok (.castore, 1) := by decide +kernel
theorem d1_83 : decode method_5_code 83 = .ok (.invokespecial 30, 3) := by decide +kernel
theorem d1_86 : decode method_5_code 86 = .ok (.areturn, 1) := by decide +kernel
theorem d1_87 : decode method_5_code 87 = .ok (.new 28, 3) := by decide +kernel
theorem d1_90 : decode method_5_code 90 = .ok (.dup, 1) := by decide +kernel
theorem d1_91 : decode method_5_code 91 = .ok (.iconst 4, 1) := by decide +kernel
theorem d1_92 : decode method_5_code 92 = .ok (.newarray .char, 2) := by decide +kernel
theorem d1_94 : decode method_5_code 94 = .ok (.dup, 1) := by decide +kernel
theorem d1_95 : decode method_5_code 95 = .ok (.iconst 0, 1) := by decide +kernel
theorem d1_96 : decode method_5_code 96 = .ok (.iload_n 1, 1) := by decide +kernel
theorem d1_97 : decode method_5_code 97 = .ok (.castore, 1) := by decide +kernel
theorem d1_98 : decode method_5_code 98 = .ok (.dup, 1) := by decide +kernel
theorem d1_99 : decode method_5_code 99 = .ok (.iconst 1, 1) := by decide +kernel
theorem d1_100 : decode method_5_code 100 = .ok (.iload_n 2, 1) := by decide +kernel
theorem d1_101 : decode method_5_code 101 = .ok (.castore, 1) := by decide +kernel
theorem d1_102 : decode method_5_code 102 = .ok (.dup, 1) := by decide +kernel
theorem d1_103 : decode method_5_code 103 = .ok (.iconst 2, 1) := by decide +kernel
theorem d1_104 : decode method_5_code 104 = .ok (.iload_n 3, 1) := by decide +kernel
theorem d1_105 : decode method_5_code 105 = .ok (.castore, 1) := by decide +kernel
theorem d1_106 : decode method_5_code 106 = .ok (.dup, 1) := by decide +kernel
theorem d1_107 : decode method_5_code 107 = .ok (.iconst 3, 1) := by decide +kernel
theorem d1_108 : decode method_5_code 108 = .ok (.iload 4, 2) := by decide +kernel
theorem d1_110 : decode method_5_code 110 = .ok (.castore, 1) := by decide +kernel
theorem d1_111 : decode method_5_code 111 = .ok (.invokespecial 30, 3) := by decide +kernel
theorem d1_114 : decode method_5_code 114 = .ok (.areturn, 1) := by decide +kernel
theorem pn_3 : plainName "com/example/redelivery/redelivery/RedeliveryHeadersIsSendablePinLaw" = true := by first | (simp [plainName, overriddenIn]; done) | decide +kernel
theorem pd_9 : parseMethodDescriptor "([C)V" = some ⟨[(.array .char)], none⟩ := by decide +kernel
set_option maxRecDepth 65536 in
set_option maxHeartbeats 40000000 in
theorem ctMk0 (l : Launch) (Z : State) (a0 : Array Value) (hw : ∀ d ∈ tables_1, d.before a0 Z = true) (hEL : EW Z a0 consts_1) (z0 : Int32) (S0 : Sta Z Z.heap "java/lang/String" "COMPACT_STRINGS" "Z" (.int z0)) (hz0 : ¬ z0 = 0) (SA1 : Sta Z Z.heap "java/lang/StringUTF16" "$assertionsDisabled" "Z" (.int (1 : Int32))) (SH : Sta Z Z.heap "java/lang/StringUTF16" "HI_BYTE_SHIFT" "I" (.int (0 : Int32))) (SL : Sta Z Z.heap "java/lang/StringUTF16" "LO_BYTE_SHIFT" "I" (.int (8 : Int32))) (c0 c1 c2 c3 : Int32) (h0 : Heap) (n0 : Nat) (r0 : Rc c0) (r1 : Rc c1) (r2 : Rc c2) (r3 : Rc c3) :
    Ct l Z consts_1 [] (⟨"com/example/redelivery/redelivery/RedeliveryHeadersIsSendablePinLaw", "make", "(ICCCC)Ljava/lang/String;"⟩ : MethodName) method_5_code 5 (some (.object "java/lang/String")) ({ frames := 3, cells := 6, slots := 12, locals := 43 } : Room) #[(.int (0 : Int32)), (.int c0), (.int c1), (.int c2), (.int c3)] h0 n0 [] (fun v h => ∃ a : Addr, v = some (.ref a) ∧ WStr Z h a []) := by
  have w : ∀ {d : Jvm.Cond} (i : Nat), tables_1[i]? = some d → d.before a0 Z = true := fun i q => hw _ (List.mem_of_getElem? q)
  refine Ct.enter (plainFor_of_name pn_3) hEL ?_
  intro p e sS m below meth c T0 hby hml0 hret hlk hnm hs0 X0
  have hml : c.maxLocals = 5 := hml0
  have D : ∀ {pc : Nat} {r : Except DecodeError (Instr × Nat)}, decode method_5_code pc = r → decode c.code pc = r := fun q => hb hby q
  rw [show entryFrame m #[(.int (0 : Int32)), (.int c0), (.int c1), (.int c2), (.int c3)] 5 = mkF m 0 #[.val (.int (0 : Int32)), .val (.int c0), .val (.int c1), .val (.int c2), .val (.int c3)] [] from by first | (simp [entryFrame, mkF, argsToLocals, Value.category]; done) | rfl]
  refine X0.iloadN (x := (0 : Int32)) (D d1_0) rfl ?_
  refine X0.if_ne 15 (D d1_1) ⟨by decide, by decide⟩ (fun hc1122 => absurd hc1122 (by decide)) (fun hc1122 => ?_)
  refine X0.new (w 8 rfl) (w 9 rfl) (w 10 rfl) (D d1_4) (by decide) (by decide) ?_
  intro T1123 h1124 b1125 g1126 X1127 E1128 A1129 D1130 U1131
  have F1132 : Fld Z h1124 b1125 "java/lang/String" "value" "[B" .null := D1130 (Or.inr (w 24 rfl)) (ty := (.array .byte)) (by decide)
  have F1133 : Fld Z h1124 b1125 "java/lang/String" "coder" "B" (.int (0 : Int32)) := D1130 (Or.inr (w 25 rfl)) (ty := .byte) (by decide)
  refine X1127.dup (D d1_7) rfl ?_
  refine X1127.iconst (x := (0 : Int32)) (D d1_8) rfl ?_
  refine X1127.newarr (w 11 rfl) (n := (0 : Int32)) (D d1_9) (by decide) 0 (by decide) (by decide) (by decide) (by decide) ?_
  intro T1134 h1135 b1136 kb1137 g1138 X1139 E1140 A1141
  have F1142 := A1129.ext E1140
  have F1143 := F1132.ext E1140
  have F1144 := F1133.ext E1140
  have lt1145 : b1125 < b1136 := by rw [g1138]; exact A1129.lt
  have F1146 : Arv Z h1135 b1136 kb1137 .char (0 : Int32) [] (.int (0 : Int32)) := A1141
  refine X1139.callc (a := b1125) [(.ref b1136)] [(.ref b1125)] (ctE1 l Z a0 hw hEL z0 S0 hz0 b1125 b1136 _ _ _ _ F1142 F1143 F1144 F1146) rfl (w 12 rfl) (w 13 rfl) (w 10 rfl) (w 14 rfl) (by decide) (by simp) (by decide) 1 (by decide) (by decide) (by decide) (lenOf pd_9 rfl) rfl (leb rfl) (by rw [hml]; rfl) (D d1_11) ?_
  rintro T1149 h1150 _ X1152 K1153 ⟨rfl, t1147, O1148⟩
  have F1154 := F1142.keep K1153
  have F1155 := F1146.keep K1153 (ninS (Nat.ne_of_gt lt1145) nin0)
  show Goes p.tables e below _ (T1149.setTop (mkF m 14 #[.val (.int (0 : Int32)), .val (.int c0), .val (.int c1), .val (.int c2), .val (.int c3)] [(.ref b1125)]))
  exact X1152.retA hret rfl rfl hlk (D d1_14) (by decide) (by decide) (⟨_, rfl, Or.inl ⟨_, O1148⟩⟩)
set_option maxRecDepth 65536 in
set_option maxHeartbeats 40000000 in
theorem ctMk1 (l : Launch) (Z : State) (a0 : Array Value) (hw : ∀ d ∈ tables_1, d.before a0 Z = true) (hEL : EW Z a0 consts_1) (z0 : Int32) (S0 : Sta Z Z.heap "java/lang/String" "COMPACT_STRINGS" "Z" (.int z0)) (hz0 : ¬ z0 = 0) (SA1 : Sta Z Z.heap "java/lang/StringUTF16" "$assertionsDisabled" "Z" (.int (1 : Int32))) (SH : Sta Z Z.heap "java/lang/StringUTF16" "HI_BYTE_SHIFT" "I" (.int (0 : Int32))) (SL : Sta Z Z.heap "java/lang/StringUTF16" "LO_BYTE_SHIFT" "I" (.int (8 : Int32))) (c0 c1 c2 c3 : Int32) (h0 : Heap) (n0 : Nat) (r0 : Rc c0) (r1 : Rc c1) (r2 : Rc c2) (r3 : Rc c3) :
    Ct l Z consts_1 [] (⟨"com/example/redelivery/redelivery/RedeliveryHeadersIsSendablePinLaw", "make", "(ICCCC)Ljava/lang/String;"⟩ : MethodName) method_5_code 5 (some (.object "java/lang/String")) ({ frames := 6, cells := 4, slots := 8, locals := 88 } : Room) #[(.int (1 : Int32)), (.int c0), (.int c1), (.int c2), (.int c3)] h0 n0 [] (fun v h => ∃ a : Addr, v = some (.ref a) ∧ WStr Z h a [c0]) := by
  have w : ∀ {d : Jvm.Cond} (i : Nat), tables_1[i]? = some d → d.before a0 Z = true := fun i q => hw _ (List.mem_of_getElem? q)
  refine Ct.enter (plainFor_of_name pn_3) hEL ?_
  intro p e sS m below meth c T0 hby hml0 hret hlk hnm hs0 X0
  have hml : c.maxLocals = 5 := hml0
  have D : ∀ {pc : Nat} {r : Except DecodeError (Instr × Nat)}, decode method_5_code pc = r → decode c.code pc = r := fun q => hb hby q
  rw [show entryFrame m #[(.int (1 : Int32)), (.int c0), (.int c1), (.int c2), (.int c3)] 5 = mkF m 0 #[.val (.int (1 : Int32)), .val (.int c0), .val (.int c1), .val (.int c2), .val (.int c3)] [] from by first | (simp [entryFrame, mkF, argsToLocals, Value.category]; done) | rfl]
  refine X0.iloadN (x := (1 : Int32)) (D d1_0) rfl ?_
  refine X0.if_ne 15 (D d1_1) ⟨by decide, by decide⟩ (fun hc1156 => ?_) (fun hc1156 => absurd hc1156 (by decide))
  refine X0.iloadN (x := (1 : Int32)) (D d1_15) rfl ?_
  refine X0.iconst (x := (1 : Int32)) (D d1_16) rfl ?_
  refine X0.icmp_ne 35 (D d1_17) ⟨by decide, by decide⟩ (fun hc1157 => absurd hc1157 (by decide)) (fun hc1157 => ?_)
  refine X0.new (w 8 rfl) (w 9 rfl) (w 10 rfl) (D d1_20) (by decide) (by decide) ?_
  intro T1158 h1159 b1160 g1161 X1162 E1163 A1164 D1165 U1166
  have F1167 : Fld Z h1159 b1160 "java/lang/String" "value" "[B" .null := D1165 (Or.inr (w 24 rfl)) (ty := (.array .byte)) (by decide)
  have F1168 : Fld Z h1159 b1160 "java/lang/String" "coder" "B" (.int (0 : Int32)) := D1165 (Or.inr (w 25 rfl)) (ty := .byte) (by decide)
  refine X1162.dup (D d1_23) rfl ?_
  refine X1162.iconst (x := (1 : Int32)) (D d1_24) rfl ?_
  refine X1162.newarr (w 11 rfl) (n := (1 : Int32)) (D d1_25) (by decide) 1 (by decide) (by decide) (by decide) (by decide) ?_
  intro T1169 h1170 b1171 kb1172 g1173 X1174 E1175 A1176
  have F1177 := A1164.ext E1175
  have F1178 := F1167.ext E1175
  have F1179 := F1168.ext E1175
  have lt1180 : b1160 < b1171 := by rw [g1173]; exact A1164.lt
  have F1181 : Arv Z h1170 b1171 kb1172 .char (1 : Int32) [(.int (0 : Int32))] (.int (0 : Int32)) := A1176.pad (pad_rep [] (.int (0 : Int32)) 1)
  refine X1174.dup (D d1_27) rfl ?_
  refine X1174.iconst (x := (0 : Int32)) (D d1_28) rfl ?_
  refine X1174.iloadN (x := c0) (D d1_29) rfl ?_
  show Goes p.tables e below _ (T1169.setTop (mkF m 30 #[.val (.int (1 : Int32)), .val (.int c0), .val (.int c1), .val (.int c2), .val (.int c3)] [(.int c0), (.int (0 : Int32)), (.ref b1171), (.ref b1171), (.ref b1160), (.ref b1160)]))
  show Goes p.tables e below _ (T1169.setTop (mkF m 30 #[.val (.int (1 : Int32)), .val (.int c0), .val (.int c1), .val (.int c2), .val (.int c3)] [(.int c0), (.int (0 : Int32)), (.ref b1171), (.ref b1171), (.ref b1160), (.ref b1160)]))
  refine X1174.castore F1181 ⟨by decide, by decide⟩ 0 rfl (leb rfl) (by simp) (D d1_30) ?_
  intro T1182 h1183 X1184 W1185 A1186
  have F1187 := F1177.wr W1185
  have F1188 := F1178.other W1185 (Or.inl (Nat.ne_of_lt lt1180))
  have F1189 := F1179.other W1185 (Or.inl (Nat.ne_of_lt lt1180))
  have F1190 : Arv Z h1183 b1171 kb1172 .char (1 : Int32) [(.int c0)] (.int (0 : Int32)) := by rw [nar_id r0] at A1186; exact A1186
  show Goes p.tables e below _ (T1182.setTop (mkF m 31 #[.val (.int (1 : Int32)), .val (.int c0), .val (.int c1), .val (.int c2), .val (.int c3)] [(.ref b1171), (.ref b1160), (.ref b1160)]))
  by_cases hall : ∀ c ∈ [c0], ¬ (255 : Int32) < c
  · show Goes p.tables e below _ (T1182.setTop (mkF m 31 #[.val (.int (1 : Int32)), .val (.int c0), .val (.int c1), .val (.int c2), .val (.int c3)] [(.ref b1171), (.ref b1160), (.ref b1160)]))
    show Goes p.tables e below _ (T1182.setTop (mkF m 31 #[.val (.int (1 : Int32)), .val (.int c0), .val (.int c1), .val (.int c2), .val (.int c3)] [(.ref b1171), (.ref b1160), (.ref b1160)]))
    refine X1184.newStr (cs := [c0]) 1 (w 12 rfl) (w 13 rfl) (fun d q => hw d (hwsV d q)) (w 9 rfl) F1187 F1188 F1189 F1190 S0 hz0 rfl rfl (by decide) (by decide) (hpS ⟨r0.1, hall c0 (by simp)⟩ hp0) (by simp) (by decide) 1 (leb rfl) (by decide) (by decide) (by decide) (by rw [hml]; rfl) (D d1_31) ?_
    intro T1191 h1192 t1193 X1194 K1195 g1196 O1197
    have F1198 := F1190.keep K1195 (ninS (Nat.ne_of_gt lt1180) nin0)
    have lt1199 : b1160 < t1193 := Nat.lt_of_lt_of_le F1187.lt g1196
    have lt1200 : b1171 < t1193 := Nat.lt_of_lt_of_le F1190.lt g1196
    show Goes p.tables e below _ (T1191.setTop (mkF m 34 #[.val (.int (1 : Int32)), .val (.int c0), .val (.int c1), .val (.int c2), .val (.int c3)] [(.ref b1160)]))
    exact X1194.retA hret rfl rfl hlk (D d1_34) (by decide) (by decide) (⟨_, rfl, Or.inl ⟨_, O1197⟩⟩)
  · show Goes p.tables e below _ (T1182.setTop (mkF m 31 #[.val (.int (1 : Int32)), .val (.int c0), .val (.int c1), .val (.int c2), .val (.int c3)] [(.ref b1171), (.ref b1160), (.ref b1160)]))
    refine X1184.callc (a := b1160) [(.ref b1171)] [(.ref b1160)] (ctI1_1 l Z a0 hw hEL z0 S0 hz0 SA1 SH SL b1160 b1171 _ _ c0 _ _ F1187 F1188 F1189 F1190 r0 hall) rfl (w 12 rfl) (w 13 rfl) (w 10 rfl) (w 14 rfl) (by decide) (by simp) (by decide) 1 (by decide) (by decide) (by decide) (lenOf pd_9 rfl) rfl (leb rfl) (by rw [hml]; rfl) (D d1_31) ?_
    rintro T1201 h1202 _ X1204 K1205 ⟨rfl, t, O⟩
    have F1206 := F1187.keep K1205
    have F1207 := F1190.keep K1205 (ninS (Nat.ne_of_gt lt1180) nin0)
    show Goes p.tables e below _ (T1201.setTop (mkF m 34 #[.val (.int (1 : Int32)), .val (.int c0), .val (.int c1), .val (.int c2), .val (.int c3)] [(.ref b1160)]))
    exact X1204.retA hret rfl rfl hlk (D d1_34) (by decide) (by decide) (⟨_, rfl, Or.inr ⟨t, O⟩⟩)
set_option maxRecDepth 65536 in
set_option maxHeartbeats 40000000 in
theorem ctMk2 (l : Launch) (Z : State) (a0 : Array Value) (hw : ∀ d ∈ tables_1, d.before a0 Z = true) (hEL : EW Z a0 consts_1) (z0 : Int32) (S0 : Sta Z Z.heap "java/lang/String" "COMPACT_STRINGS" "Z" (.int z0)) (hz0 : ¬ z0 = 0) (SA1 : Sta Z Z.heap "java/lang/StringUTF16" "$assertionsDisabled" "Z" (.int (1 : Int32))) (SH : Sta Z Z.heap "java/lang/StringUTF16" "HI_BYTE_SHIFT" "I" (.int (0 : Int32))) (SL : Sta Z Z.heap "java/lang/StringUTF16" "LO_BYTE_SHIFT" "I" (.int (8 : Int32))) (c0 c1 c2 c3 : Int32) (h0 : Heap) (n0 : Nat) (r0 : Rc c0) (r1 : Rc c1) (r2 : Rc c2) (r3 : Rc c3) :
    Ct l Z consts_1 [] (⟨"com/example/redelivery/redelivery/RedeliveryHeadersIsSendablePinLaw", "make", "(ICCCC)Ljava/lang/String;"⟩ : MethodName) method_5_code 5 (some (.object "java/lang/String")) ({ frames := 6, cells := 4, slots := 12, locals := 88 } : Room) #[(.int (2 : Int32)), (.int c0), (.int c1), (.int c2), (.int c3)] h0 n0 [] (fun v h => ∃ a : Addr, v = some (.ref a) ∧ WStr Z h a [c0, c1]) := by
  have w : ∀ {d : Jvm.Cond} (i : Nat), tables_1[i]? = some d → d.before a0 Z = true := fun i q => hw _ (List.mem_of_getElem? q)
  refine Ct.enter (plainFor_of_name pn_3) hEL ?_
  intro p e sS m below meth c T0 hby hml0 hret hlk hnm hs0 X0
  have hml : c.maxLocals = 5 := hml0
  have D : ∀ {pc : Nat} {r : Except DecodeError (Instr × Nat)}, decode method_5_code pc = r → decode c.code pc = r := fun q => hb hby q
  rw [show entryFrame m #[(.int (2 : Int32)), (.int c0), (.int c1), (.int c2), (.int c3)] 5 = mkF m 0 #[.val (.int (2 : Int32)), .val (.int c0), .val (.int c1), .val (.int c2), .val (.int c3)] [] from by first | (simp [entryFrame, mkF, argsToLocals, Value.category]; done) | rfl]
  refine X0.iloadN (x := (2 : Int32)) (D d1_0) rfl ?_
  refine X0.if_ne 15 (D d1_1) ⟨by decide, by decide⟩ (fun hc1208 => ?_) (fun hc1208 => absurd hc1208 (by decide))
  refine X0.iloadN (x := (2 : Int32)) (D d1_15) rfl ?_
  refine X0.iconst (x := (1 : Int32)) (D d1_16) rfl ?_
  refine X0.icmp_ne 35 (D d1_17) ⟨by decide, by decide⟩ (fun hc1209 => ?_) (fun hc1209 => absurd hc1209 (by decide))
  refine X0.iloadN (x := (2 : Int32)) (D d1_35) rfl ?_
  refine X0.iconst (x := (2 : Int32)) (D d1_36) rfl ?_
  refine X0.icmp_ne 59 (D d1_37) ⟨by decide, by decide⟩ (fun hc1210 => absurd hc1210 (by decide)) (fun hc1210 => ?_)
  refine X0.new (w 8 rfl) (w 9 rfl) (w 10 rfl) (D d1_40) (by decide) (by decide) ?_
  intro T1211 h1212 b1213 g1214 X1215 E1216 A1217 D1218 U1219
  have F1220 : Fld Z h1212 b1213 "java/lang/String" "value" "[B" .null := D1218 (Or.inr (w 24 rfl)) (ty := (.array .byte)) (by decide)
  have F1221 : Fld Z h1212 b1213 "java/lang/String" "coder" "B" (.int (0 : Int32)) := D1218 (Or.inr (w 25 rfl)) (ty := .byte) (by decide)
  refine X1215.dup (D d1_43) rfl ?_
  refine X1215.iconst (x := (2 : Int32)) (D d1_44) rfl ?_
  refine X1215.newarr (w 11 rfl) (n := (2 : Int32)) (D d1_45) (by decide) 2 (by decide) (by decide) (by decide) (by decide) ?_
  intro T1222 h1223 b1224 kb1225 g1226 X1227 E1228 A1229
  have F1230 := A1217.ext E1228
  have F1231 := F1220.ext E1228
  have F1232 := F1221.ext E1228
  have lt1233 : b1213 < b1224 := by rw [g1226]; exact A1217.lt
  have F1234 : Arv Z h1223 b1224 kb1225 .char (2 : Int32) [(.int (0 : Int32)), (.int (0 : Int32))] (.int (0 : Int32)) := A1229.pad (pad_rep [] (.int (0 : Int32)) 2)
  refine X1227.dup (D d1_47) rfl ?_
  show Goes p.tables e below _ (T1222.setTop (mkF m 48 #[.val (.int (2 : Int32)), .val (.int c0), .val (.int c1), .val (.int c2), .val (.int c3)] [(.ref b1224), (.ref b1224), (.ref b1213), (.ref b1213)]))
  refine X1227.iconst (x := (0 : Int32)) (D d1_48) rfl ?_
  refine X1227.iloadN (x := c0) (D d1_49) rfl ?_
  show Goes p.tables e below _ (T1222.setTop (mkF m 50 #[.val (.int (2 : Int32)), .val (.int c0), .val (.int c1), .val (.int c2), .val (.int c3)] [(.int c0), (.int (0 : Int32)), (.ref b1224), (.ref b1224), (.ref b1213), (.ref b1213)]))
  refine X1227.castore F1234 ⟨by decide, by decide⟩ 0 rfl (leb rfl) (by simp) (D d1_50) ?_
  intro T1235 h1236 X1237 W1238 A1239
  have F1240 := F1230.wr W1238
  have F1241 := F1231.other W1238 (Or.inl (Nat.ne_of_lt lt1233))
  have F1242 := F1232.other W1238 (Or.inl (Nat.ne_of_lt lt1233))
  have F1243 : Arv Z h1236 b1224 kb1225 .char (2 : Int32) [(.int c0), (.int (0 : Int32))] (.int (0 : Int32)) := by rw [nar_id r0] at A1239; exact A1239
  refine X1237.dup (D d1_51) rfl ?_
  refine X1237.iconst (x := (1 : Int32)) (D d1_52) rfl ?_
  refine X1237.iloadN (x := c1) (D d1_53) rfl ?_
  show Goes p.tables e below _ (T1235.setTop (mkF m 54 #[.val (.int (2 : Int32)), .val (.int c0), .val (.int c1), .val (.int c2), .val (.int c3)] [(.int c1), (.int (1 : Int32)), (.ref b1224), (.ref b1224), (.ref b1213), (.ref b1213)]))
  refine X1237.castore F1243 ⟨by decide, by decide⟩ 1 rfl (leb rfl) (by simp) (D d1_54) ?_
  intro T1244 h1245 X1246 W1247 A1248
  have F1249 := F1240.wr W1247
  have F1250 := F1241.other W1247 (Or.inl (Nat.ne_of_lt lt1233))
  have F1251 := F1242.other W1247 (Or.inl (Nat.ne_of_lt lt1233))
  have F1252 : Arv Z h1245 b1224 kb1225 .char (2 : Int32) [(.int c0), (.int c1)] (.int (0 : Int32)) := by rw [nar_id r1] at A1248; exact A1248
  show Goes p.tables e below _ (T1244.setTop (mkF m 55 #[.val (.int (2 : Int32)), .val (.int c0), .val (.int c1), .val (.int c2), .val (.int c3)] [(.ref b1224), (.ref b1213), (.ref b1213)]))
  by_cases hall : ∀ c ∈ [c0, c1], ¬ (255 : Int32) < c
  · show Goes p.tables e below _ (T1244.setTop (mkF m 55 #[.val (.int (2 : Int32)), .val (.int c0), .val (.int c1), .val (.int c2), .val (.int c3)] [(.ref b1224), (.ref b1213), (.ref b1213)]))
    show Goes p.tables e below _ (T1244.setTop (mkF m 55 #[.val (.int (2 : Int32)), .val (.int c0), .val (.int c1), .val (.int c2), .val (.int c3)] [(.ref b1224), (.ref b1213), (.ref b1213)]))
    refine X1246.newStr (cs := [c0, c1]) 2 (w 12 rfl) (w 13 rfl) (fun d q => hw d (hwsV d q)) (w 9 rfl) F1249 F1250 F1251 F1252 S0 hz0 rfl rfl (by decide) (by decide) (hpS ⟨r0.1, hall c0 (by simp)⟩ (hpS ⟨r1.1, hall c1 (by simp)⟩ hp0)) (by simp) (by decide) 1 (leb rfl) (by decide) (by decide) (by decide) (by rw [hml]; rfl) (D d1_55) ?_
    intro T1253 h1254 t1255 X1256 K1257 g1258 O1259
    have F1260 := F1252.keep K1257 (ninS (Nat.ne_of_gt lt1233) nin0)
    have lt1261 : b1213 < t1255 := Nat.lt_of_lt_of_le F1249.lt g1258
    have lt1262 : b1224 < t1255 := Nat.lt_of_lt_of_le F1252.lt g1258
    show Goes p.tables e below _ (T1253.setTop (mkF m 58 #[.val (.int (2 : Int32)), .val (.int c0), .val (.int c1), .val (.int c2), .val (.int c3)] [(.ref b1213)]))
    exact X1256.retA hret rfl rfl hlk (D d1_58) (by decide) (by decide) (⟨_, rfl, Or.inl ⟨_, O1259⟩⟩)
  · show Goes p.tables e below _ (T1244.setTop (mkF m 55 #[.val (.int (2 : Int32)), .val (.int c0), .val (.int c1), .val (.int c2), .val (.int c3)] [(.ref b1224), (.ref b1213), (.ref b1213)]))
    refine X1246.callc (a := b1213) [(.ref b1224)] [(.ref b1213)] (ctI1_2 l Z a0 hw hEL z0 S0 hz0 SA1 SH SL b1213 b1224 _ _ c0 c1 _ _ F1249 F1250 F1251 F1252 r0 r1 hall) rfl (w 12 rfl) (w 13 rfl) (w 10 rfl) (w 14 rfl) (by decide) (by simp) (by decide) 1 (by decide) (by decide) (by decide) (lenOf pd_9 rfl) rfl (leb rfl) (by rw [hml]; rfl) (D d1_55) ?_
    rintro T1263 h1264 _ X1266 K1267 ⟨rfl, t, O⟩
    have F1268 := F1249.keep K1267
    have F1269 := F1252.keep K1267 (ninS (Nat.ne_of_gt lt1233) nin0)
    show Goes p.tables e below _ (T1263.setTop (mkF m 58 #[.val (.int (2 : Int32)), .val (.int c0), .val (.int c1), .val (.int c2), .val (.int c3)] [(.ref b1213)]))
    exact X1266.retA hret rfl rfl hlk (D d1_58) (by decide) (by decide) (⟨_, rfl, Or.inr ⟨t, O⟩⟩)
set_option maxRecDepth 65536 in
set_option maxHeartbeats 40000000 in
theorem ctMk3 (l : Launch) (Z : State) (a0 : Array Value) (hw : ∀ d ∈ tables_1, d.before a0 Z = true) (hEL : EW Z a0 consts_1) (z0 : Int32) (S0 : Sta Z Z.heap "java/lang/String" "COMPACT_STRINGS" "Z" (.int z0)) (hz0 : ¬ z0 = 0) (SA1 : Sta Z Z.heap "java/lang/StringUTF16" "$assertionsDisabled" "Z" (.int (1 : Int32))) (SH : Sta Z Z.heap "java/lang/StringUTF16" "HI_BYTE_SHIFT" "I" (.int (0 : Int32))) (SL : Sta Z Z.heap "java/lang/StringUTF16" "LO_BYTE_SHIFT" "I" (.int (8 : Int32))) (c0 c1 c2 c3 : Int32) (h0 : Heap) (n0 : Nat) (r0 : Rc c0) (r1 : Rc c1) (r2 : Rc c2) (r3 : Rc c3) :
    Ct l Z consts_1 [] (⟨"com/example/redelivery/redelivery/RedeliveryHeadersIsSendablePinLaw", "make", "(ICCCC)Ljava/lang/String;"⟩ : MethodName) method_5_code 5 (some (.object "java/lang/String")) ({ frames := 6, cells := 4, slots := 16, locals := 88 } : Room) #[(.int (3 : Int32)), (.int c0), (.int c1), (.int c2), (.int c3)] h0 n0 [] (fun v h => ∃ a : Addr, v = some (.ref a) ∧ WStr Z h a [c0, c1, c2]) := by
  have w : ∀ {d : Jvm.Cond} (i : Nat), tables_1[i]? = some d → d.before a0 Z = true := fun i q => hw _ (List.mem_of_getElem? q)
  refine Ct.enter (plainFor_of_name pn_3) hEL ?_
  intro p e sS m below meth c T0 hby hml0 hret hlk hnm hs0 X0
  have hml : c.maxLocals = 5 := hml0
  have D : ∀ {pc : Nat} {r : Except DecodeError (Instr × Nat)}, decode method_5_code pc = r → decode c.code pc = r := fun q => hb hby q
  rw [show entryFrame m #[(.int (3 : Int32)), (.int c0), (.int c1), (.int c2), (.int c3)] 5 = mkF m 0 #[.val (.int (3 : Int32)), .val (.int c0), .val (.int c1), .val (.int c2), .val (.int c3)] [] from by first | (simp [entryFrame, mkF, argsToLocals, Value.category]; done) | rfl]
  refine X0.iloadN (x := (3 : Int32)) (D d1_0) rfl ?_
  refine X0.if_ne 15 (D d1_1) ⟨by decide, by decide⟩ (fun hc1270 => ?_) (fun hc1270 => absurd hc1270 (by decide))
  refine X0.iloadN (x := (3 : Int32)) (D d1_15) rfl ?_
  refine X0.iconst (x := (1 : Int32)) (D d1_16) rfl ?_
  refine X0.icmp_ne 35 (D d1_17) ⟨by decide, by decide⟩ (fun hc1271 => ?_) (fun hc1271 => absurd hc1271 (by decide))
  refine X0.iloadN (x := (3 : Int32)) (D d1_35) rfl ?_
  refine X0.iconst (x := (2 : Int32)) (D d1_36) rfl ?_
  refine X0.icmp_ne 59 (D d1_37) ⟨by decide, by decide⟩ (fun hc1272 => ?_) (fun hc1272 => absurd hc1272 (by decide))
  refine X0.iloadN (x := (3 : Int32)) (D d1_59) rfl ?_
  refine X0.iconst (x := (3 : Int32)) (D d1_60) rfl ?_
  refine X0.icmp_ne 87 (D d1_61) ⟨by decide, by decide⟩ (fun hc1273 => absurd hc1273 (by decide)) (fun hc1273 => ?_)
  refine X0.new (w 8 rfl) (w 9 rfl) (w 10 rfl) (D d1_64) (by decide) (by decide) ?_
  intro T1274 h1275 b1276 g1277 X1278 E1279 A1280 D1281 U1282
  have F1283 : Fld Z h1275 b1276 "java/lang/String" "value" "[B" .null := D1281 (Or.inr (w 24 rfl)) (ty := (.array .byte)) (by decide)
  have F1284 : Fld Z h1275 b1276 "java/lang/String" "coder" "B" (.int (0 : Int32)) := D1281 (Or.inr (w 25 rfl)) (ty := .byte) (by decide)
  refine X1278.dup (D d1_67) rfl ?_
  refine X1278.iconst (x := (3 : Int32)) (D d1_68) rfl ?_
  refine X1278.newarr (w 11 rfl) (n := (3 : Int32)) (D d1_69) (by decide) 3 (by decide) (by decide) (by decide) (by decide) ?_
  intro T1285 h1286 b1287 kb1288 g1289 X1290 E1291 A1292
  have F1293 := A1280.ext E1291
  have F1294 := F1283.ext E1291
  have F1295 := F1284.ext E1291
  have lt1296 : b1276 < b1287 := by rw [g1289]; exact A1280.lt
  have F1297 : Arv Z h1286 b1287 kb1288 .char (3 : Int32) [(.int (0 : Int32)), (.int (0 : Int32)), (.int (0 : Int32))] (.int (0 : Int32)) := A1292.pad (pad_rep [] (.int (0 : Int32)) 3)
  show Goes p.tables e below _ (T1285.setTop (mkF m 71 #[.val (.int (3 : Int32)), .val (.int c0), .val (.int c1), .val (.int c2), .val (.int c3)] [(.ref b1287), (.ref b1276), (.ref b1276)]))
  refine X1290.dup (D d1_71) rfl ?_
  refine X1290.iconst (x := (0 : Int32)) (D d1_72) rfl ?_
  refine X1290.iloadN (x := c0) (D d1_73) rfl ?_
  show Goes p.tables e below _ (T1285.setTop (mkF m 74 #[.val (.int (3 : Int32)), .val (.int c0), .val (.int c1), .val (.int c2), .val (.int c3)] [(.int c0), (.int (0 : Int32)), (.ref b1287), (.ref b1287), (.ref b1276), (.ref b1276)]))
  refine X1290.castore F1297 ⟨by decide, by decide⟩ 0 rfl (leb rfl) (by simp) (D d1_74) ?_
  intro T1298 h1299 X1300 W1301 A1302
  have F1303 := F1293.wr W1301
  have F1304 := F1294.other W1301 (Or.inl (Nat.ne_of_lt lt1296))
  have F1305 := F1295.other W1301 (Or.inl (Nat.ne_of_lt lt1296))
  have F1306 : Arv Z h1299 b1287 kb1288 .char (3 : Int32) [(.int c0), (.int (0 : Int32)), (.int (0 : Int32))] (.int (0 : Int32)) := by rw [nar_id r0] at A1302; exact A1302
  refine X1300.dup (D d1_75) rfl ?_
  refine X1300.iconst (x := (1 : Int32)) (D d1_76) rfl ?_
  refine X1300.iloadN (x := c1) (D d1_77) rfl ?_
  show Goes p.tables e below _ (T1298.setTop (mkF m 78 #[.val (.int (3 : Int32)), .val (.int c0), .val (.int c1), .val (.int c2), .val (.int c3)] [(.int c1), (.int (1 : Int32)), (.ref b1287), (.ref b1287), (.ref b1276), (.ref b1276)]))
  refine X1300.castore F1306 ⟨by decide, by decide⟩ 1 rfl (leb rfl) (by simp) (D d1_78) ?_
  intro T1307 h1308 X1309 W1310 A1311
  have F1312 := F1303.wr W1310
  have F1313 := F1304.other W1310 (Or.inl (Nat.ne_of_lt lt1296))
  have F1314 := F1305.other W1310 (Or.inl (Nat.ne_of_lt lt1296))
  have F1315 : Arv Z h1308 b1287 kb1288 .char (3 : Int32) [(.int c0), (.int c1), (.int (0 : Int32))] (.int (0 : Int32)) := by rw [nar_id r1] at A1311; exact A1311
  refine X1309.dup (D d1_79) rfl ?_
  refine X1309.iconst (x := (2 : Int32)) (D d1_80) rfl ?_
  refine X1309.iloadN (x := c2) (D d1_81) rfl ?_
  show Goes p.tables e below _ (T1307.setTop (mkF m 82 #[.val (.int (3 : Int32)), .val (.int c0), .val (.int c1), .val (.int c2), .val (.int c3)] [(.int c2), (.int (2 : Int32)), (.ref b1287), (.ref b1287), (.ref b1276), (.ref b1276)]))
  refine X1309.castore F1315 ⟨by decide, by decide⟩ 2 rfl (leb rfl) (by simp) (D d1_82) ?_
  intro T1316 h1317 X1318 W1319 A1320
  have F1321 := F1312.wr W1319
  have F1322 := F1313.other W1319 (Or.inl (Nat.ne_of_lt lt1296))
  have F1323 := F1314.other W1319 (Or.inl (Nat.ne_of_lt lt1296))
  have F1324 : Arv Z h1317 b1287 kb1288 .char (3 : Int32) [(.int c0), (.int c1), (.int c2)] (.int (0 : Int32)) := by rw [nar_id r2] at A1320; exact A1320
  show Goes p.tables e below _ (T1316.setTop (mkF m 83 #[.val (.int (3 : Int32)), .val (.int c0), .val (.int c1), .val (.int c2), .val (.int c3)] [(.ref b1287), (.ref b1276), (.ref b1276)]))
  by_cases hall : ∀ c ∈ [c0, c1, c2], ¬ (255 : Int32) < c
  · show Goes p.tables e below _ (T1316.setTop (mkF m 83 #[.val (.int (3 : Int32)), .val (.int c0), .val (.int c1), .val (.int c2), .val (.int c3)] [(.ref b1287), (.ref b1276), (.ref b1276)]))
    show Goes p.tables e below _ (T1316.setTop (mkF m 83 #[.val (.int (3 : Int32)), .val (.int c0), .val (.int c1), .val (.int c2), .val (.int c3)] [(.ref b1287), (.ref b1276), (.ref b1276)]))
    refine X1318.newStr (cs := [c0, c1, c2]) 3 (w 12 rfl) (w 13 rfl) (fun d q => hw d (hwsV d q)) (w 9 rfl) F1321 F1322 F1323 F1324 S0 hz0 rfl rfl (by decide) (by decide) (hpS ⟨r0.1, hall c0 (by simp)⟩ (hpS ⟨r1.1, hall c1 (by simp)⟩ (hpS ⟨r2.1, hall c2 (by simp)⟩ hp0))) (by simp) (by decide) 1 (leb rfl) (by decide) (by decide) (by decide) (by rw [hml]; rfl) (D d1_83) ?_
    intro T1325 h1326 t1327 X1328 K1329 g1330 O1331
    have F1332 := F1324.keep K1329 (ninS (Nat.ne_of_gt lt1296) nin0)
    have lt1333 : b1276 < t1327 := Nat.lt_of_lt_of_le F1321.lt g1330
    have lt1334 : b1287 < t1327 := Nat.lt_of_lt_of_le F1324.lt g1330
    show Goes p.tables e below _ (T1325.setTop (mkF m 86 #[.val (.int (3 : Int32)), .val (.int c0), .val (.int c1), .val (.int c2), .val (.int c3)] [(.ref b1276)]))
    exact X1328.retA hret rfl rfl hlk (D d1_86) (by decide) (by decide) (⟨_, rfl, Or.inl ⟨_, O1331⟩⟩)
  · show Goes p.tables e below _ (T1316.setTop (mkF m 83 #[.val (.int (3 : Int32)), .val (.int c0), .val (.int c1), .val (.int c2), .val (.int c3)] [(.ref b1287), (.ref b1276), (.ref b1276)]))
    refine X1318.callc (a := b1276) [(.ref b1287)] [(.ref b1276)] (ctI1_3 l Z a0 hw hEL z0 S0 hz0 SA1 SH SL b1276 b1287 _ _ c0 c1 c2 _ _ F1321 F1322 F1323 F1324 r0 r1 r2 hall) rfl (w 12 rfl) (w 13 rfl) (w 10 rfl) (w 14 rfl) (by decide) (by simp) (by decide) 1 (by decide) (by decide) (by decide) (lenOf pd_9 rfl) rfl (leb rfl) (by rw [hml]; rfl) (D d1_83) ?_
    rintro T1335 h1336 _ X1338 K1339 ⟨rfl, t, O⟩
    have F1340 := F1321.keep K1339
    have F1341 := F1324.keep K1339 (ninS (Nat.ne_of_gt lt1296) nin0)
    show Goes p.tables e below _ (T1335.setTop (mkF m 86 #[.val (.int (3 : Int32)), .val (.int c0), .val (.int c1), .val (.int c2), .val (.int c3)] [(.ref b1276)]))
    exact X1338.retA hret rfl rfl hlk (D d1_86) (by decide) (by decide) (⟨_, rfl, Or.inr ⟨t, O⟩⟩)
set_option maxRecDepth 65536 in
set_option maxHeartbeats 40000000 in
theorem ctMk4 (l : Launch) (Z : State) (a0 : Array Value) (hw : ∀ d ∈ tables_1, d.before a0 Z = true) (hEL : EW Z a0 consts_1) (z0 : Int32) (S0 : Sta Z Z.heap "java/lang/String" "COMPACT_STRINGS" "Z" (.int z0)) (hz0 : ¬ z0 = 0) (SA1 : Sta Z Z.heap "java/lang/StringUTF16" "$assertionsDisabled" "Z" (.int (1 : Int32))) (SH : Sta Z Z.heap "java/lang/StringUTF16" "HI_BYTE_SHIFT" "I" (.int (0 : Int32))) (SL : Sta Z Z.heap "java/lang/StringUTF16" "LO_BYTE_SHIFT" "I" (.int (8 : Int32))) (c0 c1 c2 c3 : Int32) (h0 : Heap) (n0 : Nat) (r0 : Rc c0) (r1 : Rc c1) (r2 : Rc c2) (r3 : Rc c3) :
    Ct l Z consts_1 [] (⟨"com/example/redelivery/redelivery/RedeliveryHeadersIsSendablePinLaw", "make", "(ICCCC)Ljava/lang/String;"⟩ : MethodName) method_5_code 5 (some (.object "java/lang/String")) ({ frames := 6, cells := 4, slots := 20, locals := 88 } : Room) #[(.int (4 : Int32)), (.int c0), (.int c1), (.int c2), (.int c3)] h0 n0 [] (fun v h => ∃ a : Addr, v = some (.ref a) ∧ WStr Z h a [c0, c1, c2, c3]) := by
  have w : ∀ {d : Jvm.Cond} (i : Nat), tables_1[i]? = some d → d.before a0 Z = true := fun i q => hw _ (List.mem_of_getElem? q)
  refine Ct.enter (plainFor_of_name pn_3) hEL ?_
  intro p e sS m below meth c T0 hby hml0 hret hlk hnm hs0 X0
  have hml : c.maxLocals = 5 := hml0
  have D : ∀ {pc : Nat} {r : Except DecodeError (Instr × Nat)}, decode method_5_code pc = r → decode c.code pc = r := fun q => hb hby q
  rw [show entryFrame m #[(.int (4 : Int32)), (.int c0), (.int c1), (.int c2), (.int c3)] 5 = mkF m 0 #[.val (.int (4 : Int32)), .val (.int c0), .val (.int c1), .val (.int c2), .val (.int c3)] [] from by first | (simp [entryFrame, mkF, argsToLocals, Value.category]; done) | rfl]
  refine X0.iloadN (x := (4 : Int32)) (D d1_0) rfl ?_
  refine X0.if_ne 15 (D d1_1) ⟨by decide, by decide⟩ (fun hc1342 => ?_) (fun hc1342 => absurd hc1342 (by decide))
  refine X0.iloadN (x := (4 : Int32)) (D d1_15) rfl ?_
  refine X0.iconst (x := (1 : Int32)) (D d1_16) rfl ?_
  refine X0.icmp_ne 35 (D d1_17) ⟨by decide, by decide⟩ (fun hc1343 => ?_) (fun hc1343 => absurd hc1343 (by decide))
  refine X0.iloadN (x := (4 : Int32)) (D d1_35) rfl ?_
  refine X0.iconst (x := (2 : Int32)) (D d1_36) rfl ?_
  refine X0.icmp_ne 59 (D d1_37) ⟨by decide, by decide⟩ (fun hc1344 => ?_) (fun hc1344 => absurd hc1344 (by decide))
  refine X0.iloadN (x := (4 : Int32)) (D d1_59) rfl ?_
  refine X0.iconst (x := (3 : Int32)) (D d1_60) rfl ?_
  refine X0.icmp_ne 87 (D d1_61) ⟨by decide, by decide⟩ (fun hc1345 => ?_) (fun hc1345 => absurd hc1345 (by decide))
  refine X0.new (w 8 rfl) (w 9 rfl) (w 10 rfl) (D d1_87) (by decide) (by decide) ?_
  intro T1346 h1347 b1348 g1349 X1350 E1351 A1352 D1353 U1354
  have F1355 : Fld Z h1347 b1348 "java/lang/String" "value" "[B" .null := D1353 (Or.inr (w 24 rfl)) (ty := (.array .byte)) (by decide)
  have F1356 : Fld Z h1347 b1348 "java/lang/String" "coder" "B" (.int (0 : Int32)) := D1353 (Or.inr (w 25 rfl)) (ty := .byte) (by decide)
  refine X1350.dup (D d1_90) rfl ?_
  refine X1350.iconst (x := (4 : Int32)) (D d1_91) rfl ?_
  refine X1350.newarr (w 11 rfl) (n := (4 : Int32)) (D d1_92) (by decide) 4 (by decide) (by decide) (by decide) (by decide) ?_
  intro T1357 h1358 b1359 kb1360 g1361 X1362 E1363 A1364
  have F1365 := A1352.ext E1363
  have F1366 := F1355.ext E1363
  have F1367 := F1356.ext E1363
  have lt1368 : b1348 < b1359 := by rw [g1361]; exact A1352.lt
  have F1369 : Arv Z h1358 b1359 kb1360 .char (4 : Int32) [(.int (0 : Int32)), (.int (0 : Int32)), (.int (0 : Int32)), (.int (0 : Int32))] (.int (0 : Int32)) := A1364.pad (pad_rep [] (.int (0 : Int32)) 4)
  show Goes p.tables e below _ (T1357.setTop (mkF m 94 #[.val (.int (4 : Int32)), .val (.int c0), .val (.int c1), .val (.int c2), .val (.int c3)] [(.ref b1359), (.ref b1348), (.ref b1348)]))
  refine X1362.dup (D d1_94) rfl ?_
  refine X1362.iconst (x := (0 : Int32)) (D d1_95) rfl ?_
  refine X1362.iloadN (x := c0) (D d1_96) rfl ?_
  show Goes p.tables e below _ (T1357.setTop (mkF m 97 #[.val (.int (4 : Int32)), .val (.int c0), .val (.int c1), .val (.int c2), .val (.int c3)] [(.int c0), (.int (0 : Int32)), (.ref b1359), (.ref b1359), (.ref b1348), (.ref b1348)]))
  refine X1362.castore F1369 ⟨by decide, by decide⟩ 0 rfl (leb rfl) (by simp) (D d1_97) ?_
  intro T1370 h1371 X1372 W1373 A1374
  have F1375 := F1365.wr W1373
  have F1376 := F1366.other W1373 (Or.inl (Nat.ne_of_lt lt1368))
  have F1377 := F1367.other W1373 (Or.inl (Nat.ne_of_lt lt1368))
  have F1378 : Arv Z h1371 b1359 kb1360 .char (4 : Int32) [(.int c0), (.int (0 : Int32)), (.int (0 : Int32)), (.int (0 : Int32))] (.int (0 : Int32)) := by rw [nar_id r0] at A1374; exact A1374
  refine X1372.dup (D d1_98) rfl ?_
  refine X1372.iconst (x := (1 : Int32)) (D d1_99) rfl ?_
  refine X1372.iloadN (x := c1) (D d1_100) rfl ?_
  show Goes p.tables e below _ (T1370.setTop (mkF m 101 #[.val (.int (4 : Int32)), .val (.int c0), .val (.int c1), .val (.int c2), .val (.int c3)] [(.int c1), (.int (1 : Int32)), (.ref b1359), (.ref b1359), (.ref b1348), (.ref b1348)]))
  refine X1372.castore F1378 ⟨by decide, by decide⟩ 1 rfl (leb rfl) (by simp) (D d1_101) ?_
  intro T1379 h1380 X1381 W1382 A1383
  have F1384 := F1375.wr W1382
  have F1385 := F1376.other W1382 (Or.inl (Nat.ne_of_lt lt1368))
  have F1386 := F1377.other W1382 (Or.inl (Nat.ne_of_lt lt1368))
  have F1387 : Arv Z h1380 b1359 kb1360 .char (4 : Int32) [(.int c0), (.int c1), (.int (0 : Int32)), (.int (0 : Int32))] (.int (0 : Int32)) := by rw [nar_id r1] at A1383; exact A1383
  refine X1381.dup (D d1_102) rfl ?_
  refine X1381.iconst (x := (2 : Int32)) (D d1_103) rfl ?_
  refine X1381.iloadN (x := c2) (D d1_104) rfl ?_
  show Goes p.tables e below _ (T1379.setTop (mkF m 105 #[.val (.int (4 : Int32)), .val (.int c0), .val (.int c1), .val (.int c2), .val (.int c3)] [(.int c2), (.int (2 : Int32)), (.ref b1359), (.ref b1359), (.ref b1348), (.ref b1348)]))
  refine X1381.castore F1387 ⟨by decide, by decide⟩ 2 rfl (leb rfl) (by simp) (D d1_105) ?_
  intro T1388 h1389 X1390 W1391 A1392
  have F1393 := F1384.wr W1391
  have F1394 := F1385.other W1391 (Or.inl (Nat.ne_of_lt lt1368))
  have F1395 := F1386.other W1391 (Or.inl (Nat.ne_of_lt lt1368))
  have F1396 : Arv Z h1389 b1359 kb1360 .char (4 : Int32) [(.int c0), (.int c1), (.int c2), (.int (0 : Int32))] (.int (0 : Int32)) := by rw [nar_id r2] at A1392; exact A1392
  refine X1390.dup (D d1_106) rfl ?_
  refine X1390.iconst (x := (3 : Int32)) (D d1_107) rfl ?_
  refine X1390.iload (x := c3) (D d1_108) rfl ?_
  show Goes p.tables e below _ (T1388.setTop (mkF m 110 #[.val (.int (4 : Int32)), .val (.int c0), .val (.int c1), .val (.int c2), .val (.int c3)] [(.int c3), (.int (3 : Int32)), (.ref b1359), (.ref b1359), (.ref b1348), (.ref b1348)]))
  refine X1390.castore F1396 ⟨by decide, by decide⟩ 3 rfl (leb rfl) (by simp) (D d1_110) ?_
  intro T1397 h1398 X1399 W1400 A1401
  have F1402 := F1393.wr W1400
  have F1403 := F1394.other W1400 (Or.inl (Nat.ne_of_lt lt1368))
  have F1404 := F1395.other W1400 (Or.inl (Nat.ne_of_lt lt1368))
  have F1405 : Arv Z h1398 b1359 kb1360 .char (4 : Int32) [(.int c0), (.int c1), (.int c2), (.int c3)] (.int (0 : Int32)) := by rw [nar_id r3] at A1401; exact A1401
  show Goes p.tables e below _ (T1397.setTop (mkF m 111 #[.val (.int (4 : Int32)), .val (.int c0), .val (.int c1), .val (.int c2), .val (.int c3)] [(.ref b1359), (.ref b1348), (.ref b1348)]))
  by_cases hall : ∀ c ∈ [c0, c1, c2, c3], ¬ (255 : Int32) < c
  · show Goes p.tables e below _ (T1397.setTop (mkF m 111 #[.val (.int (4 : Int32)), .val (.int c0), .val (.int c1), .val (.int c2), .val (.int c3)] [(.ref b1359), (.ref b1348), (.ref b1348)]))
    show Goes p.tables e below _ (T1397.setTop (mkF m 111 #[.val (.int (4 : Int32)), .val (.int c0), .val (.int c1), .val (.int c2), .val (.int c3)] [(.ref b1359), (.ref b1348), (.ref b1348)]))
    refine X1399.newStr (cs := [c0, c1, c2, c3]) 4 (w 12 rfl) (w 13 rfl) (fun d q => hw d (hwsV d q)) (w 9 rfl) F1402 F1403 F1404 F1405 S0 hz0 rfl rfl (by decide) (by decide) (hpS ⟨r0.1, hall c0 (by simp)⟩ (hpS ⟨r1.1, hall c1 (by simp)⟩ (hpS ⟨r2.1, hall c2 (by simp)⟩ (hpS ⟨r3.1, hall c3 (by simp)⟩ hp0)))) (by simp) (by decide) 1 (leb rfl) (by decide) (by decide) (by decide) (by rw [hml]; rfl) (D d1_111) ?_
    intro T1406 h1407 t1408 X1409 K1410 g1411 O1412
    have F1413 := F1405.keep K1410 (ninS (Nat.ne_of_gt lt1368) nin0)
    have lt1414 : b1348 < t1408 := Nat.lt_of_lt_of_le F1402.lt g1411
    have lt1415 : b1359 < t1408 := Nat.lt_of_lt_of_le F1405.lt g1411
    show Goes p.tables e below _ (T1406.setTop (mkF m 114 #[.val (.int (4 : Int32)), .val (.int c0), .val (.int c1), .val (.int c2), .val (.int c3)] [(.ref b1348)]))
    exact X1409.retA hret rfl rfl hlk (D d1_114) (by decide) (by decide) (⟨_, rfl, Or.inl ⟨_, O1412⟩⟩)
  · show Goes p.tables e below _ (T1397.setTop (mkF m 111 #[.val (.int (4 : Int32)), .val (.int c0), .val (.int c1), .val (.int c2), .val (.int c3)] [(.ref b1359), (.ref b1348), (.ref b1348)]))
    refine X1399.callc (a := b1348) [(.ref b1359)] [(.ref b1348)] (ctI1_4 l Z a0 hw hEL z0 S0 hz0 SA1 SH SL b1348 b1359 _ _ c0 c1 c2 c3 _ _ F1402 F1403 F1404 F1405 r0 r1 r2 r3 hall) rfl (w 12 rfl) (w 13 rfl) (w 10 rfl) (w 14 rfl) (by decide) (by simp) (by decide) 1 (by decide) (by decide) (by decide) (lenOf pd_9 rfl) rfl (leb rfl) (by rw [hml]; rfl) (D d1_111) ?_
    rintro T1416 h1417 _ X1419 K1420 ⟨rfl, t, O⟩
    have F1421 := F1402.keep K1420
    have F1422 := F1405.keep K1420 (ninS (Nat.ne_of_gt lt1368) nin0)
    show Goes p.tables e below _ (T1416.setTop (mkF m 114 #[.val (.int (4 : Int32)), .val (.int c0), .val (.int c1), .val (.int c2), .val (.int c3)] [(.ref b1348)]))
    exact X1419.retA hret rfl rfl hlk (D d1_114) (by decide) (by decide) (⟨_, rfl, Or.inr ⟨t, O⟩⟩)
theorem d6_0 : decode jdk_42_method_55_code 0 = .ok (.aload_n 0, 1) := by decide +kernel
theorem d6_1 : decode jdk_42_method_55_code 1 = .ok (.getfield 9, 3) := by decide +kernel
theorem d6_4 : decode jdk_42_method_55_code 4 = .ok (.arraylength, 1) := by decide +kernel
theorem d6_5 : decode jdk_42_method_55_code 5 = .ok (.ifCond .ne 7, 3) := by decide +kernel
theorem d6_8 : decode jdk_42_method_55_code 8 = .ok (.iconst 1, 1) := by decide +kernel
theorem d6_9 : decode jdk_42_method_55_code 9 = .ok (.goto 4, 3) := by decide +kernel
theorem d6_12 : decode jdk_42_method_55_code 12 = .ok (.iconst 0, 1) := by decide +kernel
theorem d6_13 : decode jdk_42_method_55_code 13 = .ok (.ireturn, 1) := by decide +kernel
set_option maxRecDepth 65536 in
set_option maxHeartbeats 40000000 in
theorem ctEm0 (l : Launch) (Z : State) (a0 : Array Value) (hw : ∀ d ∈ tables_1, d.before a0 Z = true) (hEL : EW Z a0 consts_1) (z0 : Int32) (S0 : Sta Z Z.heap "java/lang/String" "COMPACT_STRINGS" "Z" (.int z0)) (hz0 : ¬ z0 = 0) (s : Addr) (h0 : Heap) (n0 : Nat) (WS : WStr Z h0 s []) :
    Ct l Z consts_1 [] (⟨"java/lang/String", "isEmpty", "()Z"⟩ : MethodName) jdk_42_method_55_code 1 (some .boolean) ({ frames := 0, cells := 0, slots := 0, locals := 0 } : Room) #[(.ref s)] h0 n0 [] (fun v _ => v = some (.int (1 : Int32))) := by
  have w : ∀ {d : Jvm.Cond} (i : Nat), tables_1[i]? = some d → d.before a0 Z = true := fun i q => hw _ (List.mem_of_getElem? q)
  refine Ct.enter (plainFor_of_name pn_1) hEL ?_
  intro p e sS m below meth c T0 hby hml0 hret hlk hnm hs0 X0
  have hml : c.maxLocals = 1 := hml0
  have D : ∀ {pc : Nat} {r : Except DecodeError (Instr × Nat)}, decode jdk_42_method_55_code pc = r → decode c.code pc = r := fun q => hb hby q
  rw [show entryFrame m #[(.ref s)] 1 = mkF m 0 #[.val (.ref s)] [] from by first | (simp [entryFrame, mkF, argsToLocals, Value.category]; done) | rfl]
  show Goes p.tables e below _ (T0.setTop (mkF m 0 #[.val (.ref s)] []))
  rcases WS with ⟨t, OU⟩ | ⟨t, OU⟩
  · show Goes p.tables e below _ (T0.setTop (mkF m 0 #[.val (.ref s)] []))
    obtain ⟨F1423, hb8, -, kb1424, F1425, F1426, F1427⟩ := id OU
    have F1428 : Arv Z h0 t kb1424 .byte (0 : Int32) [] (.int (0 : Int32)) := F1427
    refine X0.aloadN (x := (.ref s)) (D d6_0) rfl rfl ?_
    refine X0.getf (w 28 rfl) Via.refl F1425 (D d6_1) ?_
    intro T1429 X1430
    refine X1430.alen F1428 (D d6_4) ?_
    refine X1430.if_ne 12 (D d6_5) ⟨by decide, by decide⟩ (fun hc1431 => absurd hc1431 (by decide)) (fun hc1431 => ?_)
    refine X1430.iconst (x := (1 : Int32)) (D d6_8) rfl ?_
    refine X1430.goto 13 (D d6_9) ⟨by decide, by decide⟩ ?_
    exact X1430.reti hret (by simp) hlk (D d6_13) (by decide) (by decide) (rfl)
  · show Goes p.tables e below _ (T0.setTop (mkF m 0 #[.val (.ref s)] []))
    obtain ⟨F1432, kb1433, F1434, F1435, F1436⟩ := id OU
    have F1437 : Arv Z h0 t kb1433 .byte (0 : Int32) [] (.int (0 : Int32)) := F1436
    refine X0.aloadN (x := (.ref s)) (D d6_0) rfl rfl ?_
    refine X0.getf (w 28 rfl) Via.refl F1434 (D d6_1) ?_
    intro T1438 X1439
    refine X1439.alen F1437 (D d6_4) ?_
    refine X1439.if_ne 12 (D d6_5) ⟨by decide, by decide⟩ (fun hc1440 => absurd hc1440 (by decide)) (fun hc1440 => ?_)
    refine X1439.iconst (x := (1 : Int32)) (D d6_8) rfl ?_
    refine X1439.goto 13 (D d6_9) ⟨by decide, by decide⟩ ?_
    exact X1439.reti hret (by simp) hlk (D d6_13) (by decide) (by decide) (rfl)
set_option maxRecDepth 65536 in
set_option maxHeartbeats 40000000 in
theorem ctEm1 (l : Launch) (Z : State) (a0 : Array Value) (hw : ∀ d ∈ tables_1, d.before a0 Z = true) (hEL : EW Z a0 consts_1) (z0 : Int32) (S0 : Sta Z Z.heap "java/lang/String" "COMPACT_STRINGS" "Z" (.int z0)) (hz0 : ¬ z0 = 0) (s : Addr) (c0 : Int32) (h0 : Heap) (n0 : Nat) (WS : WStr Z h0 s [c0]) :
    Ct l Z consts_1 [] (⟨"java/lang/String", "isEmpty", "()Z"⟩ : MethodName) jdk_42_method_55_code 1 (some .boolean) ({ frames := 0, cells := 0, slots := 0, locals := 0 } : Room) #[(.ref s)] h0 n0 [] (fun v _ => v = some (.int (0 : Int32))) := by
  have w : ∀ {d : Jvm.Cond} (i : Nat), tables_1[i]? = some d → d.before a0 Z = true := fun i q => hw _ (List.mem_of_getElem? q)
  refine Ct.enter (plainFor_of_name pn_1) hEL ?_
  intro p e sS m below meth c T0 hby hml0 hret hlk hnm hs0 X0
  have hml : c.maxLocals = 1 := hml0
  have D : ∀ {pc : Nat} {r : Except DecodeError (Instr × Nat)}, decode jdk_42_method_55_code pc = r → decode c.code pc = r := fun q => hb hby q
  rw [show entryFrame m #[(.ref s)] 1 = mkF m 0 #[.val (.ref s)] [] from by first | (simp [entryFrame, mkF, argsToLocals, Value.category]; done) | rfl]
  show Goes p.tables e below _ (T0.setTop (mkF m 0 #[.val (.ref s)] []))
  rcases WS with ⟨t, OU⟩ | ⟨t, OU⟩
  · show Goes p.tables e below _ (T0.setTop (mkF m 0 #[.val (.ref s)] []))
    obtain ⟨F1441, hb8, -, kb1442, F1443, F1444, F1445⟩ := id OU
    have F1446 : Arv Z h0 t kb1442 .byte (1 : Int32) [(.int (StrChars.lo8 c0))] (.int (0 : Int32)) := F1445
    refine X0.aloadN (x := (.ref s)) (D d6_0) rfl rfl ?_
    refine X0.getf (w 28 rfl) Via.refl F1443 (D d6_1) ?_
    intro T1447 X1448
    refine X1448.alen F1446 (D d6_4) ?_
    refine X1448.if_ne 12 (D d6_5) ⟨by decide, by decide⟩ (fun hc1449 => ?_) (fun hc1449 => absurd hc1449 (by decide))
    refine X1448.iconst (x := (0 : Int32)) (D d6_12) rfl ?_
    exact X1448.reti hret (by simp) hlk (D d6_13) (by decide) (by decide) (rfl)
  · show Goes p.tables e below _ (T0.setTop (mkF m 0 #[.val (.ref s)] []))
    obtain ⟨F1450, kb1451, F1452, F1453, F1454⟩ := id OU
    have F1455 : Arv Z h0 t kb1451 .byte (2 : Int32) [(.int (StrChars.lo8 c0)), (.int (StrChars.hi8 c0))] (.int (0 : Int32)) := F1454
    refine X0.aloadN (x := (.ref s)) (D d6_0) rfl rfl ?_
    refine X0.getf (w 28 rfl) Via.refl F1452 (D d6_1) ?_
    intro T1456 X1457
    refine X1457.alen F1455 (D d6_4) ?_
    refine X1457.if_ne 12 (D d6_5) ⟨by decide, by decide⟩ (fun hc1458 => ?_) (fun hc1458 => absurd hc1458 (by decide))
    refine X1457.iconst (x := (0 : Int32)) (D d6_12) rfl ?_
    exact X1457.reti hret (by simp) hlk (D d6_13) (by decide) (by decide) (rfl)
theorem d16_0 : decode jdk_42_method_54_code 0 = .ok (.aload_n 0, 1) := by decide +kernel
theorem d16_1 : decode jdk_42_method_54_code 1 = .ok (.getfield 9, 3) := by decide +kernel
theorem d16_4 : decode jdk_42_method_54_code 4 = .ok (.arraylength, 1) := by decide +kernel
theorem d16_5 : decode jdk_42_method_54_code 5 = .ok (.aload_n 0, 1) := by decide +kernel
theorem d16_6 : decode jdk_42_method_54_code 6 = .ok (.invokevirtual 335, 3) := by decide +kernel
theorem d16_9 : decode jdk_42_method_54_code 9 = .ok (.ishr, 1) := by decide +kernel
theorem d16_10 : decode jdk_42_method_54_code 10 = .ok (.ireturn, 1) := by decide +kernel
theorem pd_10 : parseMethodDescriptor "()B" = some ⟨[], (some .byte)⟩ := by decide +kernel
set_option maxRecDepth 65536 in
set_option maxHeartbeats 40000000 in
theorem ctLn1 (l : Launch) (Z : State) (a0 : Array Value) (hw : ∀ d ∈ tables_1, d.before a0 Z = true) (hEL : EW Z a0 consts_1) (z0 : Int32) (S0 : Sta Z Z.heap "java/lang/String" "COMPACT_STRINGS" "Z" (.int z0)) (hz0 : ¬ z0 = 0) (s : Addr) (c0 : Int32) (h0 : Heap) (n0 : Nat) (WS : WStr Z h0 s [c0]) :
    Ct l Z consts_1 [] (⟨"java/lang/String", "length", "()I"⟩ : MethodName) jdk_42_method_54_code 1 (some .int) ({ frames := 1, cells := 0, slots := 0, locals := 13 } : Room) #[(.ref s)] h0 n0 [] (fun v _ => v = some (.int (1 : Int32))) := by
  have w : ∀ {d : Jvm.Cond} (i : Nat), tables_1[i]? = some d → d.before a0 Z = true := fun i q => hw _ (List.mem_of_getElem? q)
  refine Ct.enter (plainFor_of_name pn_1) hEL ?_
  intro p e sS m below meth c T0 hby hml0 hret hlk hnm hs0 X0
  have hml : c.maxLocals = 1 := hml0
  have D : ∀ {pc : Nat} {r : Except DecodeError (Instr × Nat)}, decode jdk_42_method_54_code pc = r → decode c.code pc = r := fun q => hb hby q
  rw [show entryFrame m #[(.ref s)] 1 = mkF m 0 #[.val (.ref s)] [] from by first | (simp [entryFrame, mkF, argsToLocals, Value.category]; done) | rfl]
  show Goes p.tables e below _ (T0.setTop (mkF m 0 #[.val (.ref s)] []))
  rcases WS with ⟨t, OU⟩ | ⟨t, OU⟩
  · show Goes p.tables e below _ (T0.setTop (mkF m 0 #[.val (.ref s)] []))
    obtain ⟨F1459, hb8, -, kb1460, F1461, F1462, F1463⟩ := id OU
    have F1464 : Arv Z h0 t kb1460 .byte (1 : Int32) [(.int (StrChars.lo8 c0))] (.int (0 : Int32)) := F1463
    refine X0.aloadN (x := (.ref s)) (D d16_0) rfl rfl ?_
    refine X0.getf (w 28 rfl) Via.refl F1461 (D d16_1) ?_
    intro T1465 X1466
    refine X1466.alen F1464 (D d16_4) ?_
    refine X1466.aloadN (x := (.ref s)) (D d16_5) rfl rfl ?_
    refine X1466.callv (y := (⟨"java/lang/String", "coder", "()B"⟩ : MethodName)) (a := s) (C := "java/lang/String") [] [(.int (1 : Int32))] (ctCdr0 l Z a0 hw hEL z0 S0 hz0 s _ _ F1462) F1459 (w 80 rfl) (w 81 rfl) (w 83 rfl) (w 82 rfl) (w 10 rfl) (w 84 rfl) (by decide) (fun _ q => nomatch q) (by decide) 1 (by decide) (by decide) (by decide) (lenOf pd_10 rfl) rfl (leb rfl) (by rw [hml]; rfl) (D d16_6) ?_
    rintro T1467 h1468 _ X1470 K1471 rfl
    have F1472 := F1459.keep K1471
    have F1473 := F1461.keep K1471 nin0
    have F1474 := F1462.keep K1471 nin0
    have F1475 := F1464.keep K1471 nin0
    show Goes p.tables e below _ (T1467.setTop (mkF m 9 #[.val (.ref s)] [(.int (0 : Int32)), (.int (1 : Int32))]))
    refine X1470.ishr (D d16_9) ?_
    show Goes p.tables e below _ (T1467.setTop (mkF m 10 #[.val (.ref s)] [(.int (1 : Int32))]))
    exact X1470.retI hret hlk (D d16_10) (by decide) (by decide) (rfl)
  · show Goes p.tables e below _ (T0.setTop (mkF m 0 #[.val (.ref s)] []))
    obtain ⟨F1476, kb1477, F1478, F1479, F1480⟩ := id OU
    have F1481 : Arv Z h0 t kb1477 .byte (2 : Int32) [(.int (StrChars.lo8 c0)), (.int (StrChars.hi8 c0))] (.int (0 : Int32)) := F1480
    refine X0.aloadN (x := (.ref s)) (D d16_0) rfl rfl ?_
    refine X0.getf (w 28 rfl) Via.refl F1478 (D d16_1) ?_
    intro T1482 X1483
    refine X1483.alen F1481 (D d16_4) ?_
    refine X1483.aloadN (x := (.ref s)) (D d16_5) rfl rfl ?_
    refine X1483.callv (y := (⟨"java/lang/String", "coder", "()B"⟩ : MethodName)) (a := s) (C := "java/lang/String") [] [(.int (2 : Int32))] (ctCdr1 l Z a0 hw hEL z0 S0 hz0 s _ _ F1479) F1476 (w 80 rfl) (w 81 rfl) (w 83 rfl) (w 82 rfl) (w 10 rfl) (w 84 rfl) (by decide) (fun _ q => nomatch q) (by decide) 1 (by decide) (by decide) (by decide) (lenOf pd_10 rfl) rfl (leb rfl) (by rw [hml]; rfl) (D d16_6) ?_
    rintro T1484 h1485 _ X1487 K1488 rfl
    have F1489 := F1476.keep K1488
    have F1490 := F1478.keep K1488 nin0
    have F1491 := F1479.keep K1488 nin0
    have F1492 := F1481.keep K1488 nin0
    show Goes p.tables e below _ (T1484.setTop (mkF m 9 #[.val (.ref s)] [(.int (1 : Int32)), (.int (2 : Int32))]))
    refine X1487.ishr (D d16_9) ?_
    show Goes p.tables e below _ (T1484.setTop (mkF m 10 #[.val (.ref s)] [(.int (1 : Int32))]))
    exact X1487.retI hret hlk (D d16_10) (by decide) (by decide) (rfl)
theorem d25_0 : decode jdk_52_method_6_code 0 = .ok (.aload_n 0, 1) := by decide +kernel
theorem d25_1 : decode jdk_52_method_6_code 1 = .ok (.arraylength, 1) := by decide +kernel
theorem d25_2 : decode jdk_52_method_6_code 2 = .ok (.iconst 1, 1) := by decide +kernel
theorem d25_3 : decode jdk_52_method_6_code 3 = .ok (.ishr, 1) := by decide +kernel
theorem d25_4 : decode jdk_52_method_6_code 4 = .ok (.ireturn, 1) := by decide +kernel
set_option maxRecDepth 65536 in
set_option maxHeartbeats 40000000 in
theorem ctUL1 (l : Launch) (Z : State) (a0 : Array Value) (hw : ∀ d ∈ tables_1, d.before a0 Z = true) (hEL : EW Z a0 consts_1) (z0 : Int32) (S0 : Sta Z Z.heap "java/lang/String" "COMPACT_STRINGS" "Z" (.int z0)) (hz0 : ¬ z0 = 0) (r : Addr) (kr : ClassId) (vs : List Value) (dv : Value) (h0 : Heap) (n0 : Nat) (A0 : Arv Z h0 r kr .byte (2 : Int32) vs dv) :
    Ct l Z consts_1 [] (⟨"java/lang/StringUTF16", "length", "([B)I"⟩ : MethodName) jdk_52_method_6_code 1 (some .int) ({ frames := 0, cells := 0, slots := 0, locals := 0 } : Room) #[(.ref r)] h0 n0 [] (fun v _ => v = some (.int (1 : Int32))) := by
  have w : ∀ {d : Jvm.Cond} (i : Nat), tables_1[i]? = some d → d.before a0 Z = true := fun i q => hw _ (List.mem_of_getElem? q)
  refine Ct.enter (plainFor_of_name pn_2) hEL ?_
  intro p e sS m below meth c T0 hby hml0 hret hlk hnm hs0 X0
  have hml : c.maxLocals = 1 := hml0
  have D : ∀ {pc : Nat} {r : Except DecodeError (Instr × Nat)}, decode jdk_52_method_6_code pc = r → decode c.code pc = r := fun q => hb hby q
  rw [show entryFrame m #[(.ref r)] 1 = mkF m 0 #[.val (.ref r)] [] from by first | (simp [entryFrame, mkF, argsToLocals, Value.category]; done) | rfl]
  refine X0.aloadN (x := (.ref r)) (D d25_0) rfl rfl ?_
  refine X0.alen A0 (D d25_1) ?_
  refine X0.iconst (x := (1 : Int32)) (D d25_2) rfl ?_
  refine X0.ishr (D d25_3) ?_
  show Goes p.tables e below _ (T0.setTop (mkF m 4 #[.val (.ref r)] [(.int (1 : Int32))]))
  exact X0.retI hret hlk (D d25_4) (by decide) (by decide) (rfl)
theorem d24_0 : decode jdk_52_method_91_code 0 = .ok (.iload_n 0, 1) := by decide +kernel
theorem d24_1 : decode jdk_52_method_91_code 1 = .ok (.aload_n 1, 1) := by decide +kernel
theorem d24_2 : decode jdk_52_method_91_code 2 = .ok (.invokestatic 48, 3) := by decide +kernel
theorem d24_5 : decode jdk_52_method_91_code 5 = .ok (.invokestatic 414, 3) := by decide +kernel
theorem d24_8 : decode jdk_52_method_91_code 8 = .ok (.return_, 1) := by decide +kernel
theorem pd_11 : parseMethodDescriptor "([B)I" = some ⟨[(.array .byte)], (some .int)⟩ := by decide +kernel
theorem pd_12 : parseMethodDescriptor "(II)V" = some ⟨[.int, .int], none⟩ := by decide +kernel
set_option maxRecDepth 65536 in
set_option maxHeartbeats 40000000 in
theorem ctUC1_0 (l : Launch) (Z : State) (a0 : Array Value) (hw : ∀ d ∈ tables_1, d.before a0 Z = true) (hEL : EW Z a0 consts_1) (z0 : Int32) (S0 : Sta Z Z.heap "java/lang/String" "COMPACT_STRINGS" "Z" (.int z0)) (hz0 : ¬ z0 = 0) (fm : Value) (hfm : fm.isRef = true) (SF : Sta Z Z.heap "jdk/internal/util/Preconditions" "SIOOBE_FORMATTER" "Ljava/util/function/BiFunction;" fm) (r : Addr) (kr : ClassId) (vs : List Value) (dv : Value) (h0 : Heap) (n0 : Nat) (A0 : Arv Z h0 r kr .byte (2 : Int32) vs dv) :
    Ct l Z consts_1 [] (⟨"java/lang/StringUTF16", "checkIndex", "(I[B)V"⟩ : MethodName) jdk_52_method_91_code 2 none ({ frames := 2, cells := 0, slots := 0, locals := 27 } : Room) #[(.int (0 : Int32)), (.ref r)] h0 n0 [] (fun v _ => v = none) := by
  have w : ∀ {d : Jvm.Cond} (i : Nat), tables_1[i]? = some d → d.before a0 Z = true := fun i q => hw _ (List.mem_of_getElem? q)
  refine Ct.enter (plainFor_of_name pn_2) hEL ?_
  intro p e sS m below meth c T0 hby hml0 hret hlk hnm hs0 X0
  have hml : c.maxLocals = 2 := hml0
  have D : ∀ {pc : Nat} {r : Except DecodeError (Instr × Nat)}, decode jdk_52_method_91_code pc = r → decode c.code pc = r := fun q => hb hby q
  rw [show entryFrame m #[(.int (0 : Int32)), (.ref r)] 2 = mkF m 0 #[.val (.int (0 : Int32)), .val (.ref r)] [] from by first | (simp [entryFrame, mkF, argsToLocals, Value.category]; done) | rfl]
  refine X0.iloadN (x := (0 : Int32)) (D d24_0) rfl ?_
  refine X0.aloadN (x := (.ref r)) (D d24_1) rfl rfl ?_
  refine X0.calls [(.ref r)] [(.int (0 : Int32))] (ctUL1 l Z a0 hw hEL z0 S0 hz0 r kr _ _ _ _ A0) (w 110 rfl) (w 111 rfl) (w 42 rfl) (w 112 rfl) (by decide) (fun _ q => nomatch q) (by decide) 1 (by decide) (by decide) (by decide) (lenOf pd_11 rfl) rfl (leb rfl) (by rw [hml]; rfl) (D d24_2) ?_
  rintro T1493 h1494 _ X1496 K1497 rfl
  have F1498 := A0.keep K1497 nin0
  show Goes p.tables e below _ (T1493.setTop (mkF m 5 #[.val (.int (0 : Int32)), .val (.ref r)] [(.int (1 : Int32)), (.int (0 : Int32))]))
  refine X1496.calls [(.int (0 : Int32)), (.int (1 : Int32))] [] (ctSci l Z a0 hw hEL z0 S0 hz0 fm hfm SF (0 : Int32) (1 : Int32) _ _ (by decide) (by decide)) (w 113 rfl) (w 68 rfl) (w 10 rfl) (w 69 rfl) (by decide) (fun _ q => nomatch q) (by decide) 0 (by decide) (by decide) (by decide) (lenOf pd_12 rfl) rfl (leb rfl) (by rw [hml]; rfl) (D d24_5) ?_
  rintro T1499 h1500 _ X1502 K1503 rfl
  have F1504 := F1498.keep K1503 nin0
  show Goes p.tables e below _ (T1499.setTop (mkF m 8 #[.val (.int (0 : Int32)), .val (.ref r)] []))
  exact X1502.retn hret hlk (D d24_8) (by decide) (by decide) (rfl)
theorem d23_0 : decode jdk_52_method_83_code 0 = .ok (.iload_n 1, 1) := by decide +kernel
theorem d23_1 : decode jdk_52_method_83_code 1 = .ok (.aload_n 0, 1) := by decide +kernel
theorem d23_2 : decode jdk_52_method_83_code 2 = .ok (.invokestatic 67, 3) := by decide +kernel
theorem d23_5 : decode jdk_52_method_83_code 5 = .ok (.aload_n 0, 1) := by decide +kernel
theorem d23_6 : decode jdk_52_method_83_code 6 = .ok (.iload_n 1, 1) := by decide +kernel
theorem d23_7 : decode jdk_52_method_83_code 7 = .ok (.invokestatic 71, 3) := by decide +kernel
theorem d23_10 : decode jdk_52_method_83_code 10 = .ok (.ireturn, 1) := by decide +kernel
theorem pd_13 : parseMethodDescriptor "(I[B)V" = some ⟨[.int, (.array .byte)], none⟩ := by decide +kernel
set_option maxRecDepth 65536 in
set_option maxHeartbeats 40000000 in
theorem ctUA1_0 (l : Launch) (Z : State) (a0 : Array Value) (hw : ∀ d ∈ tables_1, d.before a0 Z = true) (hEL : EW Z a0 consts_1) (z0 : Int32) (S0 : Sta Z Z.heap "java/lang/String" "COMPACT_STRINGS" "Z" (.int z0)) (hz0 : ¬ z0 = 0) (SA1 : Sta Z Z.heap "java/lang/StringUTF16" "$assertionsDisabled" "Z" (.int (1 : Int32))) (SH : Sta Z Z.heap "java/lang/StringUTF16" "HI_BYTE_SHIFT" "I" (.int (0 : Int32))) (SL : Sta Z Z.heap "java/lang/StringUTF16" "LO_BYTE_SHIFT" "I" (.int (8 : Int32))) (fm : Value) (hfm : fm.isRef = true) (SF : Sta Z Z.heap "jdk/internal/util/Preconditions" "SIOOBE_FORMATTER" "Ljava/util/function/BiFunction;" fm) (r : Addr) (kr : ClassId) (c0 : Int32) (h0 : Heap) (n0 : Nat) (A0 : Arv Z h0 r kr .byte (2 : Int32) [(.int (StrChars.lo8 c0)), (.int (StrChars.hi8 c0))] (.int (0 : Int32))) (r0 : Rc c0) :
    Ct l Z consts_1 [] (⟨"java/lang/StringUTF16", "charAt", "([BI)C"⟩ : MethodName) jdk_52_method_83_code 2 (some .char) ({ frames := 3, cells := 0, slots := 0, locals := 40 } : Room) #[(.ref r), (.int (0 : Int32))] h0 n0 [] (fun v _ => v = some (.int c0)) := by
  have w : ∀ {d : Jvm.Cond} (i : Nat), tables_1[i]? = some d → d.before a0 Z = true := fun i q => hw _ (List.mem_of_getElem? q)
  refine Ct.enter (plainFor_of_name pn_2) hEL ?_
  intro p e sS m below meth c T0 hby hml0 hret hlk hnm hs0 X0
  have hml : c.maxLocals = 2 := hml0
  have D : ∀ {pc : Nat} {r : Except DecodeError (Instr × Nat)}, decode jdk_52_method_83_code pc = r → decode c.code pc = r := fun q => hb hby q
  rw [show entryFrame m #[(.ref r), (.int (0 : Int32))] 2 = mkF m 0 #[.val (.ref r), .val (.int (0 : Int32))] [] from by first | (simp [entryFrame, mkF, argsToLocals, Value.category]; done) | rfl]
  refine X0.iloadN (x := (0 : Int32)) (D d23_0) rfl ?_
  refine X0.aloadN (x := (.ref r)) (D d23_1) rfl rfl ?_
  refine X0.calls [(.int (0 : Int32)), (.ref r)] [] (ctUC1_0 l Z a0 hw hEL z0 S0 hz0 fm hfm SF r kr _ _ _ _ A0) (w 107 rfl) (w 108 rfl) (w 42 rfl) (w 109 rfl) (by decide) (fun _ q => nomatch q) (by decide) 0 (by decide) (by decide) (by decide) (lenOf pd_13 rfl) rfl (leb rfl) (by rw [hml]; rfl) (D d23_2) ?_
  rintro T1505 h1506 _ X1508 K1509 rfl
  have F1510 := A0.keep K1509 nin0
  show Goes p.tables e below _ (T1505.setTop (mkF m 5 #[.val (.ref r), .val (.int (0 : Int32))] []))
  refine X1508.aloadN (x := (.ref r)) (D d23_5) rfl rfl ?_
  refine X1508.iloadN (x := (0 : Int32)) (D d23_6) rfl ?_
  refine X1508.calls [(.ref r), (.int (0 : Int32))] [] (ctGC1_0 l Z a0 hw hEL z0 S0 hz0 SA1 SH SL r kr c0 _ _ F1510 r0) (w 101 rfl) (w 102 rfl) (w 42 rfl) (w 103 rfl) (by decide) (fun _ q => nomatch q) (by decide) 0 (by decide) (by decide) (by decide) (lenOf pd_7 rfl) rfl (leb rfl) (by rw [hml]; rfl) (D d23_7) ?_
  rintro T1511 h1512 _ X1514 K1515 rfl
  have F1516 := F1510.keep K1515 nin0
  show Goes p.tables e below _ (T1511.setTop (mkF m 10 #[.val (.ref r), .val (.int (0 : Int32))] [(.int c0)]))
  exact X1514.reti hret (by simp) hlk (D d23_10) (by decide) (by decide) (congrArg (fun z => some (Value.int z)) (nar_id r0))
theorem d13_0 : decode jdk_43_method_2_code 0 = .ok (.iload_n 1, 1) := by decide +kernel
theorem d13_1 : decode jdk_43_method_2_code 1 = .ok (.aload_n 0, 1) := by decide +kernel
theorem d13_2 : decode jdk_43_method_2_code 2 = .ok (.arraylength, 1) := by decide +kernel
theorem d13_3 : decode jdk_43_method_2_code 3 = .ok (.invokestatic 9, 3) := by decide +kernel
theorem d13_6 : decode jdk_43_method_2_code 6 = .ok (.aload_n 0, 1) := by decide +kernel
theorem d13_7 : decode jdk_43_method_2_code 7 = .ok (.iload_n 1, 1) := by decide +kernel
theorem d13_8 : decode jdk_43_method_2_code 8 = .ok (.baload, 1) := by decide +kernel
theorem d13_9 : decode jdk_43_method_2_code 9 = .ok (.sipush 255, 3) := by decide +kernel
theorem d13_12 : decode jdk_43_method_2_code 12 = .ok (.iand, 1) := by decide +kernel
theorem d13_13 : decode jdk_43_method_2_code 13 = .ok (.i2c, 1) := by decide +kernel
theorem d13_14 : decode jdk_43_method_2_code 14 = .ok (.ireturn, 1) := by decide +kernel
theorem pn_4 : plainName "java/lang/StringLatin1" = true := by first | (simp [plainName, overriddenIn]; done) | decide +kernel
set_option maxRecDepth 65536 in
set_option maxHeartbeats 40000000 in
theorem ctLA1_0 (l : Launch) (Z : State) (a0 : Array Value) (hw : ∀ d ∈ tables_1, d.before a0 Z = true) (hEL : EW Z a0 consts_1) (z0 : Int32) (S0 : Sta Z Z.heap "java/lang/String" "COMPACT_STRINGS" "Z" (.int z0)) (hz0 : ¬ z0 = 0) (fm : Value) (hfm : fm.isRef = true) (SF : Sta Z Z.heap "jdk/internal/util/Preconditions" "SIOOBE_FORMATTER" "Ljava/util/function/BiFunction;" fm) (r : Addr) (kr : ClassId) (c0 : Int32) (h0 : Heap) (n0 : Nat) (A0 : Arv Z h0 r kr .byte (1 : Int32) [(.int (StrChars.lo8 c0))] (.int (0 : Int32))) (r0 : Rc c0) (h8 : ¬ (255 : Int32) < c0) :
    Ct l Z consts_1 [] (⟨"java/lang/StringLatin1", "charAt", "([BI)C"⟩ : MethodName) jdk_43_method_2_code 2 (some .char) ({ frames := 2, cells := 0, slots := 0, locals := 27 } : Room) #[(.ref r), (.int (0 : Int32))] h0 n0 [] (fun v _ => v = some (.int c0)) := by
  have w : ∀ {d : Jvm.Cond} (i : Nat), tables_1[i]? = some d → d.before a0 Z = true := fun i q => hw _ (List.mem_of_getElem? q)
  refine Ct.enter (plainFor_of_name pn_4) hEL ?_
  intro p e sS m below meth c T0 hby hml0 hret hlk hnm hs0 X0
  have hml : c.maxLocals = 2 := hml0
  have D : ∀ {pc : Nat} {r : Except DecodeError (Instr × Nat)}, decode jdk_43_method_2_code pc = r → decode c.code pc = r := fun q => hb hby q
  rw [show entryFrame m #[(.ref r), (.int (0 : Int32))] 2 = mkF m 0 #[.val (.ref r), .val (.int (0 : Int32))] [] from by first | (simp [entryFrame, mkF, argsToLocals, Value.category]; done) | rfl]
  refine X0.iloadN (x := (0 : Int32)) (D d13_0) rfl ?_
  refine X0.aloadN (x := (.ref r)) (D d13_1) rfl rfl ?_
  refine X0.alen A0 (D d13_2) ?_
  refine X0.calls [(.int (0 : Int32)), (.int (1 : Int32))] [] (ctSci l Z a0 hw hEL z0 S0 hz0 fm hfm SF (0 : Int32) (1 : Int32) _ _ (by decide) (by decide)) (w 67 rfl) (w 68 rfl) (w 10 rfl) (w 69 rfl) (by decide) (fun _ q => nomatch q) (by decide) 0 (by decide) (by decide) (by decide) (lenOf pd_12 rfl) rfl (leb rfl) (by rw [hml]; rfl) (D d13_3) ?_
  rintro T1517 h1518 _ X1520 K1521 rfl
  have F1522 := A0.keep K1521 nin0
  show Goes p.tables e below _ (T1517.setTop (mkF m 6 #[.val (.ref r), .val (.int (0 : Int32))] []))
  refine X1520.aloadN (x := (.ref r)) (D d13_6) rfl rfl ?_
  refine X1520.iloadN (x := (0 : Int32)) (D d13_7) rfl ?_
  show Goes p.tables e below _ (T1517.setTop (mkF m 8 #[.val (.ref r), .val (.int (0 : Int32))] [(.int (0 : Int32)), (.ref r)]))
  refine X1520.baload (v := (.int (StrChars.lo8 c0))) F1522 ⟨by decide, by decide⟩ rfl (D d13_8) ?_
  refine X1520.sipush (x := (255 : Int32)) (D d13_9) rfl ?_
  refine X1520.iand (D d13_12) ?_
  refine X1520.i2c (D d13_13) ?_
  exact X1520.reti hret (by simp) hlk (D d13_14) (by decide) (by decide) (ret_lo r0 h8)
theorem d11_0 : decode jdk_42_method_56_code 0 = .ok (.aload_n 0, 1) := by decide +kernel
theorem d11_1 : decode jdk_42_method_56_code 1 = .ok (.invokevirtual 492, 3) := by decide +kernel
theorem d11_4 : decode jdk_42_method_56_code 4 = .ok (.ifCond .eq 12, 3) := by decide +kernel
theorem d11_7 : decode jdk_42_method_56_code 7 = .ok (.aload_n 0, 1) := by decide +kernel
theorem d11_8 : decode jdk_42_method_56_code 8 = .ok (.getfield 9, 3) := by decide +kernel
theorem d11_11 : decode jdk_42_method_56_code 11 = .ok (.iload_n 1, 1) := by decide +kernel
theorem d11_12 : decode jdk_42_method_56_code 12 = .ok (.invokestatic 495, 3) := by decide +kernel
theorem d11_15 : decode jdk_42_method_56_code 15 = .ok (.ireturn, 1) := by decide +kernel
theorem d11_16 : decode jdk_42_method_56_code 16 = .ok (.aload_n 0, 1) := by decide +kernel
theorem d11_17 : decode jdk_42_method_56_code 17 = .ok (.getfield 9, 3) := by decide +kernel
theorem d11_20 : decode jdk_42_method_56_code 20 = .ok (.iload_n 1, 1) := by decide +kernel
theorem d11_21 : decode jdk_42_method_56_code 21 = .ok (.invokestatic 498, 3) := by decide +kernel
theorem d11_24 : decode jdk_42_method_56_code 24 = .ok (.ireturn, 1) := by decide +kernel
theorem pd_14 : parseMethodDescriptor "()Z" = some ⟨[], (some .boolean)⟩ := by decide +kernel
set_option maxRecDepth 65536 in
set_option maxHeartbeats 40000000 in
theorem ctCA1_0 (l : Launch) (Z : State) (a0 : Array Value) (hw : ∀ d ∈ tables_1, d.before a0 Z = true) (hEL : EW Z a0 consts_1) (z0 : Int32) (S0 : Sta Z Z.heap "java/lang/String" "COMPACT_STRINGS" "Z" (.int z0)) (hz0 : ¬ z0 = 0) (SA1 : Sta Z Z.heap "java/lang/StringUTF16" "$assertionsDisabled" "Z" (.int (1 : Int32))) (SH : Sta Z Z.heap "java/lang/StringUTF16" "HI_BYTE_SHIFT" "I" (.int (0 : Int32))) (SL : Sta Z Z.heap "java/lang/StringUTF16" "LO_BYTE_SHIFT" "I" (.int (8 : Int32))) (fm : Value) (hfm : fm.isRef = true) (SF : Sta Z Z.heap "jdk/internal/util/Preconditions" "SIOOBE_FORMATTER" "Ljava/util/function/BiFunction;" fm) (s : Addr) (c0 : Int32) (h0 : Heap) (n0 : Nat) (WS : WStr Z h0 s [c0]) (r0 : Rc c0) :
    Ct l Z consts_1 [] (⟨"java/lang/String", "charAt", "(I)C"⟩ : MethodName) jdk_42_method_56_code 2 (some .char) ({ frames := 4, cells := 0, slots := 0, locals := 53 } : Room) #[(.ref s), (.int (0 : Int32))] h0 n0 [] (fun v _ => v = some (.int c0)) := by
  have w : ∀ {d : Jvm.Cond} (i : Nat), tables_1[i]? = some d → d.before a0 Z = true := fun i q => hw _ (List.mem_of_getElem? q)
  refine Ct.enter (plainFor_of_name pn_1) hEL ?_
  intro p e sS m below meth c T0 hby hml0 hret hlk hnm hs0 X0
  have hml : c.maxLocals = 2 := hml0
  have D : ∀ {pc : Nat} {r : Except DecodeError (Instr × Nat)}, decode jdk_42_method_56_code pc = r → decode c.code pc = r := fun q => hb hby q
  rw [show entryFrame m #[(.ref s), (.int (0 : Int32))] 2 = mkF m 0 #[.val (.ref s), .val (.int (0 : Int32))] [] from by first | (simp [entryFrame, mkF, argsToLocals, Value.category]; done) | rfl]
  show Goes p.tables e below _ (T0.setTop (mkF m 0 #[.val (.ref s), .val (.int (0 : Int32))] []))
  rcases WS with ⟨t, OU⟩ | ⟨t, OU⟩
  · show Goes p.tables e below _ (T0.setTop (mkF m 0 #[.val (.ref s), .val (.int (0 : Int32))] []))
    obtain ⟨F1523, hb8, -, kb1524, F1525, F1526, F1527⟩ := id OU
    have F1528 : Arv Z h0 t kb1524 .byte (1 : Int32) [(.int (StrChars.lo8 c0))] (.int (0 : Int32)) := F1527
    refine X0.aloadN (x := (.ref s)) (D d11_0) rfl rfl ?_
    refine X0.callv (y := (⟨"java/lang/String", "isLatin1", "()Z"⟩ : MethodName)) (a := s) (C := "java/lang/String") [] [] (ctIsL0 l Z a0 hw hEL z0 S0 hz0 s _ _ F1526) F1523 (w 58 rfl) (w 59 rfl) (w 61 rfl) (w 60 rfl) (w 10 rfl) (w 62 rfl) (by decide) (fun _ q => nomatch q) (by decide) 0 (by decide) (by decide) (by decide) (lenOf pd_14 rfl) rfl (leb rfl) (by rw [hml]; rfl) (D d11_1) ?_
    rintro T1529 h1530 _ X1532 K1533 rfl
    have F1534 := F1523.keep K1533
    have F1535 := F1525.keep K1533 nin0
    have F1536 := F1526.keep K1533 nin0
    have F1537 := F1528.keep K1533 nin0
    show Goes p.tables e below _ (T1529.setTop (mkF m 4 #[.val (.ref s), .val (.int (0 : Int32))] [(.int (1 : Int32))]))
    refine X1532.if_eq 16 (D d11_4) ⟨by decide, by decide⟩ (fun hc1538 => absurd hc1538 (by decide)) (fun hc1538 => ?_)
    refine X1532.aloadN (x := (.ref s)) (D d11_7) rfl rfl ?_
    refine X1532.getf (w 28 rfl) Via.refl F1535 (D d11_8) ?_
    intro T1539 X1540
    refine X1540.iloadN (x := (0 : Int32)) (D d11_11) rfl ?_
    refine X1540.calls [(.ref t), (.int (0 : Int32))] [] (ctLA1_0 l Z a0 hw hEL z0 S0 hz0 fm hfm SF t _ c0 _ _ F1537 r0 (hb8 c0 (by simp)).2) (w 63 rfl) (w 64 rfl) (w 65 rfl) (w 66 rfl) (by decide) (fun _ q => nomatch q) (by decide) 0 (by decide) (by decide) (by decide) (lenOf pd_7 rfl) rfl (leb rfl) (by rw [hml]; rfl) (D d11_12) ?_
    rintro T1541 h1542 _ X1544 K1545 rfl
    have F1546 := F1534.keep K1545
    have F1547 := F1535.keep K1545 nin0
    have F1548 := F1536.keep K1545 nin0
    have F1549 := F1537.keep K1545 nin0
    show Goes p.tables e below _ (T1541.setTop (mkF m 15 #[.val (.ref s), .val (.int (0 : Int32))] [(.int c0)]))
    exact X1544.reti hret (by simp) hlk (D d11_15) (by decide) (by decide) (congrArg (fun z => some (Value.int z)) (nar_id r0))
  · show Goes p.tables e below _ (T0.setTop (mkF m 0 #[.val (.ref s), .val (.int (0 : Int32))] []))
    obtain ⟨F1550, kb1551, F1552, F1553, F1554⟩ := id OU
    have F1555 : Arv Z h0 t kb1551 .byte (2 : Int32) [(.int (StrChars.lo8 c0)), (.int (StrChars.hi8 c0))] (.int (0 : Int32)) := F1554
    refine X0.aloadN (x := (.ref s)) (D d11_0) rfl rfl ?_
    refine X0.callv (y := (⟨"java/lang/String", "isLatin1", "()Z"⟩ : MethodName)) (a := s) (C := "java/lang/String") [] [] (ctIsL1 l Z a0 hw hEL z0 S0 hz0 s _ _ F1553) F1550 (w 58 rfl) (w 59 rfl) (w 61 rfl) (w 60 rfl) (w 10 rfl) (w 62 rfl) (by decide) (fun _ q => nomatch q) (by decide) 0 (by decide) (by decide) (by decide) (lenOf pd_14 rfl) rfl (leb rfl) (by rw [hml]; rfl) (D d11_1) ?_
    rintro T1556 h1557 _ X1559 K1560 rfl
    have F1561 := F1550.keep K1560
    have F1562 := F1552.keep K1560 nin0
    have F1563 := F1553.keep K1560 nin0
    have F1564 := F1555.keep K1560 nin0
    show Goes p.tables e below _ (T1556.setTop (mkF m 4 #[.val (.ref s), .val (.int (0 : Int32))] [(.int (0 : Int32))]))
    refine X1559.if_eq 16 (D d11_4) ⟨by decide, by decide⟩ (fun hc1565 => ?_) (fun hc1565 => absurd hc1565 (by decide))
    refine X1559.aloadN (x := (.ref s)) (D d11_16) rfl rfl ?_
    refine X1559.getf (w 28 rfl) Via.refl F1562 (D d11_17) ?_
    intro T1566 X1567
    refine X1567.iloadN (x := (0 : Int32)) (D d11_20) rfl ?_
    refine X1567.calls [(.ref t), (.int (0 : Int32))] [] (ctUA1_0 l Z a0 hw hEL z0 S0 hz0 SA1 SH SL fm hfm SF t _ c0 _ _ F1564 r0) (w 104 rfl) (w 105 rfl) (w 42 rfl) (w 106 rfl) (by decide) (fun _ q => nomatch q) (by decide) 0 (by decide) (by decide) (by decide) (lenOf pd_7 rfl) rfl (leb rfl) (by rw [hml]; rfl) (D d11_21) ?_
    rintro T1568 h1569 _ X1571 K1572 rfl
    have F1573 := F1561.keep K1572
    have F1574 := F1562.keep K1572 nin0
    have F1575 := F1563.keep K1572 nin0
    have F1576 := F1564.keep K1572 nin0
    show Goes p.tables e below _ (T1568.setTop (mkF m 24 #[.val (.ref s), .val (.int (0 : Int32))] [(.int c0)]))
    exact X1571.reti hret (by simp) hlk (D d11_24) (by decide) (by decide) (congrArg (fun z => some (Value.int z)) (nar_id r0))
set_option maxRecDepth 65536 in
set_option maxHeartbeats 40000000 in
theorem ctEm2 (l : Launch) (Z : State) (a0 : Array Value) (hw : ∀ d ∈ tables_1, d.before a0 Z = true) (hEL : EW Z a0 consts_1) (z0 : Int32) (S0 : Sta Z Z.heap "java/lang/String" "COMPACT_STRINGS" "Z" (.int z0)) (hz0 : ¬ z0 = 0) (s : Addr) (c0 c1 : Int32) (h0 : Heap) (n0 : Nat) (WS : WStr Z h0 s [c0, c1]) :
    Ct l Z consts_1 [] (⟨"java/lang/String", "isEmpty", "()Z"⟩ : MethodName) jdk_42_method_55_code 1 (some .boolean) ({ frames := 0, cells := 0, slots := 0, locals := 0 } : Room) #[(.ref s)] h0 n0 [] (fun v _ => v = some (.int (0 : Int32))) := by
  have w : ∀ {d : Jvm.Cond} (i : Nat), tables_1[i]? = some d → d.before a0 Z = true := fun i q => hw _ (List.mem_of_getElem? q)
  refine Ct.enter (plainFor_of_name pn_1) hEL ?_
  intro p e sS m below meth c T0 hby hml0 hret hlk hnm hs0 X0
  have hml : c.maxLocals = 1 := hml0
  have D : ∀ {pc : Nat} {r : Except DecodeError (Instr × Nat)}, decode jdk_42_method_55_code pc = r → decode c.code pc = r := fun q => hb hby q
  rw [show entryFrame m #[(.ref s)] 1 = mkF m 0 #[.val (.ref s)] [] from by first | (simp [entryFrame, mkF, argsToLocals, Value.category]; done) | rfl]
  show Goes p.tables e below _ (T0.setTop (mkF m 0 #[.val (.ref s)] []))
  rcases WS with ⟨t, OU⟩ | ⟨t, OU⟩
  · show Goes p.tables e below _ (T0.setTop (mkF m 0 #[.val (.ref s)] []))
    obtain ⟨F1577, hb8, -, kb1578, F1579, F1580, F1581⟩ := id OU
    have F1582 : Arv Z h0 t kb1578 .byte (2 : Int32) [(.int (StrChars.lo8 c0)), (.int (StrChars.lo8 c1))] (.int (0 : Int32)) := F1581
    refine X0.aloadN (x := (.ref s)) (D d6_0) rfl rfl ?_
    refine X0.getf (w 28 rfl) Via.refl F1579 (D d6_1) ?_
    intro T1583 X1584
    refine X1584.alen F1582 (D d6_4) ?_
    refine X1584.if_ne 12 (D d6_5) ⟨by decide, by decide⟩ (fun hc1585 => ?_) (fun hc1585 => absurd hc1585 (by decide))
    refine X1584.iconst (x := (0 : Int32)) (D d6_12) rfl ?_
    exact X1584.reti hret (by simp) hlk (D d6_13) (by decide) (by decide) (rfl)
  · show Goes p.tables e below _ (T0.setTop (mkF m 0 #[.val (.ref s)] []))
    obtain ⟨F1586, kb1587, F1588, F1589, F1590⟩ := id OU
    have F1591 : Arv Z h0 t kb1587 .byte (4 : Int32) [(.int (StrChars.lo8 c0)), (.int (StrChars.hi8 c0)), (.int (StrChars.lo8 c1)), (.int (StrChars.hi8 c1))] (.int (0 : Int32)) := F1590
    refine X0.aloadN (x := (.ref s)) (D d6_0) rfl rfl ?_
    refine X0.getf (w 28 rfl) Via.refl F1588 (D d6_1) ?_
    intro T1592 X1593
    refine X1593.alen F1591 (D d6_4) ?_
    refine X1593.if_ne 12 (D d6_5) ⟨by decide, by decide⟩ (fun hc1594 => ?_) (fun hc1594 => absurd hc1594 (by decide))
    refine X1593.iconst (x := (0 : Int32)) (D d6_12) rfl ?_
    exact X1593.reti hret (by simp) hlk (D d6_13) (by decide) (by decide) (rfl)
set_option maxRecDepth 65536 in
set_option maxHeartbeats 40000000 in
theorem ctLn2 (l : Launch) (Z : State) (a0 : Array Value) (hw : ∀ d ∈ tables_1, d.before a0 Z = true) (hEL : EW Z a0 consts_1) (z0 : Int32) (S0 : Sta Z Z.heap "java/lang/String" "COMPACT_STRINGS" "Z" (.int z0)) (hz0 : ¬ z0 = 0) (s : Addr) (c0 c1 : Int32) (h0 : Heap) (n0 : Nat) (WS : WStr Z h0 s [c0, c1]) :
    Ct l Z consts_1 [] (⟨"java/lang/String", "length", "()I"⟩ : MethodName) jdk_42_method_54_code 1 (some .int) ({ frames := 1, cells := 0, slots := 0, locals := 13 } : Room) #[(.ref s)] h0 n0 [] (fun v _ => v = some (.int (2 : Int32))) := by
  have w : ∀ {d : Jvm.Cond} (i : Nat), tables_1[i]? = some d → d.before a0 Z = true := fun i q => hw _ (List.mem_of_getElem? q)
  refine Ct.enter (plainFor_of_name pn_1) hEL ?_
  intro p e sS m below meth c T0 hby hml0 hret hlk hnm hs0 X0
  have hml : c.maxLocals = 1 := hml0
  have D : ∀ {pc : Nat} {r : Except DecodeError (Instr × Nat)}, decode jdk_42_method_54_code pc = r → decode c.code pc = r := fun q => hb hby q
  rw [show entryFrame m #[(.ref s)] 1 = mkF m 0 #[.val (.ref s)] [] from by first | (simp [entryFrame, mkF, argsToLocals, Value.category]; done) | rfl]
  show Goes p.tables e below _ (T0.setTop (mkF m 0 #[.val (.ref s)] []))
  rcases WS with ⟨t, OU⟩ | ⟨t, OU⟩
  · show Goes p.tables e below _ (T0.setTop (mkF m 0 #[.val (.ref s)] []))
    obtain ⟨F1595, hb8, -, kb1596, F1597, F1598, F1599⟩ := id OU
    have F1600 : Arv Z h0 t kb1596 .byte (2 : Int32) [(.int (StrChars.lo8 c0)), (.int (StrChars.lo8 c1))] (.int (0 : Int32)) := F1599
    refine X0.aloadN (x := (.ref s)) (D d16_0) rfl rfl ?_
    refine X0.getf (w 28 rfl) Via.refl F1597 (D d16_1) ?_
    intro T1601 X1602
    refine X1602.alen F1600 (D d16_4) ?_
    refine X1602.aloadN (x := (.ref s)) (D d16_5) rfl rfl ?_
    refine X1602.callv (y := (⟨"java/lang/String", "coder", "()B"⟩ : MethodName)) (a := s) (C := "java/lang/String") [] [(.int (2 : Int32))] (ctCdr0 l Z a0 hw hEL z0 S0 hz0 s _ _ F1598) F1595 (w 80 rfl) (w 81 rfl) (w 83 rfl) (w 82 rfl) (w 10 rfl) (w 84 rfl) (by decide) (fun _ q => nomatch q) (by decide) 1 (by decide) (by decide) (by decide) (lenOf pd_10 rfl) rfl (leb rfl) (by rw [hml]; rfl) (D d16_6) ?_
    rintro T1603 h1604 _ X1606 K1607 rfl
    have F1608 := F1595.keep K1607
    have F1609 := F1597.keep K1607 nin0
    have F1610 := F1598.keep K1607 nin0
    have F1611 := F1600.keep K1607 nin0
    show Goes p.tables e below _ (T1603.setTop (mkF m 9 #[.val (.ref s)] [(.int (0 : Int32)), (.int (2 : Int32))]))
    refine X1606.ishr (D d16_9) ?_
    show Goes p.tables e below _ (T1603.setTop (mkF m 10 #[.val (.ref s)] [(.int (2 : Int32))]))
    exact X1606.retI hret hlk (D d16_10) (by decide) (by decide) (rfl)
  · show Goes p.tables e below _ (T0.setTop (mkF m 0 #[.val (.ref s)] []))
    obtain ⟨F1612, kb1613, F1614, F1615, F1616⟩ := id OU
    have F1617 : Arv Z h0 t kb1613 .byte (4 : Int32) [(.int (StrChars.lo8 c0)), (.int (StrChars.hi8 c0)), (.int (StrChars.lo8 c1)), (.int (StrChars.hi8 c1))] (.int (0 : Int32)) := F1616
    refine X0.aloadN (x := (.ref s)) (D d16_0) rfl rfl ?_
    refine X0.getf (w 28 rfl) Via.refl F1614 (D d16_1) ?_
    intro T1618 X1619
    refine X1619.alen F1617 (D d16_4) ?_
    refine X1619.aloadN (x := (.ref s)) (D d16_5) rfl rfl ?_
    refine X1619.callv (y := (⟨"java/lang/String", "coder", "()B"⟩ : MethodName)) (a := s) (C := "java/lang/String") [] [(.int (4 : Int32))] (ctCdr1 l Z a0 hw hEL z0 S0 hz0 s _ _ F1615) F1612 (w 80 rfl) (w 81 rfl) (w 83 rfl) (w 82 rfl) (w 10 rfl) (w 84 rfl) (by decide) (fun _ q => nomatch q) (by decide) 1 (by decide) (by decide) (by decide) (lenOf pd_10 rfl) rfl (leb rfl) (by rw [hml]; rfl) (D d16_6) ?_
    rintro T1620 h1621 _ X1623 K1624 rfl
    have F1625 := F1612.keep K1624
    have F1626 := F1614.keep K1624 nin0
    have F1627 := F1615.keep K1624 nin0
    have F1628 := F1617.keep K1624 nin0
    show Goes p.tables e below _ (T1620.setTop (mkF m 9 #[.val (.ref s)] [(.int (1 : Int32)), (.int (4 : Int32))]))
    refine X1623.ishr (D d16_9) ?_
    show Goes p.tables e below _ (T1620.setTop (mkF m 10 #[.val (.ref s)] [(.int (2 : Int32))]))
    exact X1623.retI hret hlk (D d16_10) (by decide) (by decide) (rfl)
set_option maxRecDepth 65536 in
set_option maxHeartbeats 40000000 in
theorem ctUL2 (l : Launch) (Z : State) (a0 : Array Value) (hw : ∀ d ∈ tables_1, d.before a0 Z = true) (hEL : EW Z a0 consts_1) (z0 : Int32) (S0 : Sta Z Z.heap "java/lang/String" "COMPACT_STRINGS" "Z" (.int z0)) (hz0 : ¬ z0 = 0) (r : Addr) (kr : ClassId) (vs : List Value) (dv : Value) (h0 : Heap) (n0 : Nat) (A0 : Arv Z h0 r kr .byte (4 : Int32) vs dv) :
    Ct l Z consts_1 [] (⟨"java/lang/StringUTF16", "length", "([B)I"⟩ : MethodName) jdk_52_method_6_code 1 (some .int) ({ frames := 0, cells := 0, slots := 0, locals := 0 } : Room) #[(.ref r)] h0 n0 [] (fun v _ => v = some (.int (2 : Int32))) := by
  have w : ∀ {d : Jvm.Cond} (i : Nat), tables_1[i]? = some d → d.before a0 Z = true := fun i q => hw _ (List.mem_of_getElem? q)
  refine Ct.enter (plainFor_of_name pn_2) hEL ?_
  intro p e sS m below meth c T0 hby hml0 hret hlk hnm hs0 X0
  have hml : c.maxLocals = 1 := hml0
  have D : ∀ {pc : Nat} {r : Except DecodeError (Instr × Nat)}, decode jdk_52_method_6_code pc = r → decode c.code pc = r := fun q => hb hby q
  rw [show entryFrame m #[(.ref r)] 1 = mkF m 0 #[.val (.ref r)] [] from by first | (simp [entryFrame, mkF, argsToLocals, Value.category]; done) | rfl]
  refine X0.aloadN (x := (.ref r)) (D d25_0) rfl rfl ?_
  refine X0.alen A0 (D d25_1) ?_
  refine X0.iconst (x := (1 : Int32)) (D d25_2) rfl ?_
  refine X0.ishr (D d25_3) ?_
  show Goes p.tables e below _ (T0.setTop (mkF m 4 #[.val (.ref r)] [(.int (2 : Int32))]))
  exact X0.retI hret hlk (D d25_4) (by decide) (by decide) (rfl)
set_option maxRecDepth 65536 in
set_option maxHeartbeats 40000000 in
theorem ctUC2_0 (l : Launch) (Z : State) (a0 : Array Value) (hw : ∀ d ∈ tables_1, d.before a0 Z = true) (hEL : EW Z a0 consts_1) (z0 : Int32) (S0 : Sta Z Z.heap "java/lang/String" "COMPACT_STRINGS" "Z" (.int z0)) (hz0 : ¬ z0 = 0) (fm : Value) (hfm : fm.isRef = true) (SF : Sta Z Z.heap "jdk/internal/util/Preconditions" "SIOOBE_FORMATTER" "Ljava/util/function/BiFunction;" fm) (r : Addr) (kr : ClassId) (vs : List Value) (dv : Value) (h0 : Heap) (n0 : Nat) (A0 : Arv Z h0 r kr .byte (4 : Int32) vs dv) :
    Ct l Z consts_1 [] (⟨"java/lang/StringUTF16", "checkIndex", "(I[B)V"⟩ : MethodName) jdk_52_method_91_code 2 none ({ frames := 2, cells := 0, slots := 0, locals := 27 } : Room) #[(.int (0 : Int32)), (.ref r)] h0 n0 [] (fun v _ => v = none) := by
  have w : ∀ {d : Jvm.Cond} (i : Nat), tables_1[i]? = some d → d.before a0 Z = true := fun i q => hw _ (List.mem_of_getElem? q)
  refine Ct.enter (plainFor_of_name pn_2) hEL ?_
  intro p e sS m below meth c T0 hby hml0 hret hlk hnm hs0 X0
  have hml : c.maxLocals = 2 := hml0
  have D : ∀ {pc : Nat} {r : Except DecodeError (Instr × Nat)}, decode jdk_52_method_91_code pc = r → decode c.code pc = r := fun q => hb hby q
  rw [show entryFrame m #[(.int (0 : Int32)), (.ref r)] 2 = mkF m 0 #[.val (.int (0 : Int32)), .val (.ref r)] [] from by first | (simp [entryFrame, mkF, argsToLocals, Value.category]; done) | rfl]
  refine X0.iloadN (x := (0 : Int32)) (D d24_0) rfl ?_
  refine X0.aloadN (x := (.ref r)) (D d24_1) rfl rfl ?_
  refine X0.calls [(.ref r)] [(.int (0 : Int32))] (ctUL2 l Z a0 hw hEL z0 S0 hz0 r kr _ _ _ _ A0) (w 110 rfl) (w 111 rfl) (w 42 rfl) (w 112 rfl) (by decide) (fun _ q => nomatch q) (by decide) 1 (by decide) (by decide) (by decide) (lenOf pd_11 rfl) rfl (leb rfl) (by rw [hml]; rfl) (D d24_2) ?_
  rintro T1629 h1630 _ X1632 K1633 rfl
  have F1634 := A0.keep K1633 nin0
  show Goes p.tables e below _ (T1629.setTop (mkF m 5 #[.val (.int (0 : Int32)), .val (.ref r)] [(.int (2 : Int32)), (.int (0 : Int32))]))
  refine X1632.calls [(.int (0 : Int32)), (.int (2 : Int32))] [] (ctSci l Z a0 hw hEL z0 S0 hz0 fm hfm SF (0 : Int32) (2 : Int32) _ _ (by decide) (by decide)) (w 113 rfl) (w 68 rfl) (w 10 rfl) (w 69 rfl) (by decide) (fun _ q => nomatch q) (by decide) 0 (by decide) (by decide) (by decide) (lenOf pd_12 rfl) rfl (leb rfl) (by rw [hml]; rfl) (D d24_5) ?_
  rintro T1635 h1636 _ X1638 K1639 rfl
  have F1640 := F1634.keep K1639 nin0
  show Goes p.tables e below _ (T1635.setTop (mkF m 8 #[.val (.int (0 : Int32)), .val (.ref r)] []))
  exact X1638.retn hret hlk (D d24_8) (by decide) (by decide) (rfl)
set_option maxRecDepth 65536 in
set_option maxHeartbeats 40000000 in
theorem ctUA2_0 (l : Launch) (Z : State) (a0 : Array Value) (hw : ∀ d ∈ tables_1, d.before a0 Z = true) (hEL : EW Z a0 consts_1) (z0 : Int32) (S0 : Sta Z Z.heap "java/lang/String" "COMPACT_STRINGS" "Z" (.int z0)) (hz0 : ¬ z0 = 0) (SA1 : Sta Z Z.heap "java/lang/StringUTF16" "$assertionsDisabled" "Z" (.int (1 : Int32))) (SH : Sta Z Z.heap "java/lang/StringUTF16" "HI_BYTE_SHIFT" "I" (.int (0 : Int32))) (SL : Sta Z Z.heap "java/lang/StringUTF16" "LO_BYTE_SHIFT" "I" (.int (8 : Int32))) (fm : Value) (hfm : fm.isRef = true) (SF : Sta Z Z.heap "jdk/internal/util/Preconditions" "SIOOBE_FORMATTER" "Ljava/util/function/BiFunction;" fm) (r : Addr) (kr : ClassId) (c0 c1 : Int32) (h0 : Heap) (n0 : Nat) (A0 : Arv Z h0 r kr .byte (4 : Int32) [(.int (StrChars.lo8 c0)), (.int (StrChars.hi8 c0)), (.int (StrChars.lo8 c1)), (.int (StrChars.hi8 c1))] (.int (0 : Int32))) (r0 : Rc c0) :
    Ct l Z consts_1 [] (⟨"java/lang/StringUTF16", "charAt", "([BI)C"⟩ : MethodName) jdk_52_method_83_code 2 (some .char) ({ frames := 3, cells := 0, slots := 0, locals := 40 } : Room) #[(.ref r), (.int (0 : Int32))] h0 n0 [] (fun v _ => v = some (.int c0)) := by
  have w : ∀ {d : Jvm.Cond} (i : Nat), tables_1[i]? = some d → d.before a0 Z = true := fun i q => hw _ (List.mem_of_getElem? q)
  refine Ct.enter (plainFor_of_name pn_2) hEL ?_
  intro p e sS m below meth c T0 hby hml0 hret hlk hnm hs0 X0
  have hml : c.maxLocals = 2 := hml0
  have D : ∀ {pc : Nat} {r : Except DecodeError (Instr × Nat)}, decode jdk_52_method_83_code pc = r → decode c.code pc = r := fun q => hb hby q
  rw [show entryFrame m #[(.ref r), (.int (0 : Int32))] 2 = mkF m 0 #[.val (.ref r), .val (.int (0 : Int32))] [] from by first | (simp [entryFrame, mkF, argsToLocals, Value.category]; done) | rfl]
  refine X0.iloadN (x := (0 : Int32)) (D d23_0) rfl ?_
  refine X0.aloadN (x := (.ref r)) (D d23_1) rfl rfl ?_
  refine X0.calls [(.int (0 : Int32)), (.ref r)] [] (ctUC2_0 l Z a0 hw hEL z0 S0 hz0 fm hfm SF r kr _ _ _ _ A0) (w 107 rfl) (w 108 rfl) (w 42 rfl) (w 109 rfl) (by decide) (fun _ q => nomatch q) (by decide) 0 (by decide) (by decide) (by decide) (lenOf pd_13 rfl) rfl (leb rfl) (by rw [hml]; rfl) (D d23_2) ?_
  rintro T1641 h1642 _ X1644 K1645 rfl
  have F1646 := A0.keep K1645 nin0
  show Goes p.tables e below _ (T1641.setTop (mkF m 5 #[.val (.ref r), .val (.int (0 : Int32))] []))
  refine X1644.aloadN (x := (.ref r)) (D d23_5) rfl rfl ?_
  refine X1644.iloadN (x := (0 : Int32)) (D d23_6) rfl ?_
  refine X1644.calls [(.ref r), (.int (0 : Int32))] [] (ctGC2_0 l Z a0 hw hEL z0 S0 hz0 SA1 SH SL r kr c0 c1 _ _ F1646 r0) (w 101 rfl) (w 102 rfl) (w 42 rfl) (w 103 rfl) (by decide) (fun _ q => nomatch q) (by decide) 0 (by decide) (by decide) (by decide) (lenOf pd_7 rfl) rfl (leb rfl) (by rw [hml]; rfl) (D d23_7) ?_
  rintro T1647 h1648 _ X1650 K1651 rfl
  have F1652 := F1646.keep K1651 nin0
  show Goes p.tables e below _ (T1647.setTop (mkF m 10 #[.val (.ref r), .val (.int (0 : Int32))] [(.int c0)]))
  exact X1650.reti hret (by simp) hlk (D d23_10) (by decide) (by decide) (congrArg (fun z => some (Value.int z)) (nar_id r0))
set_option maxRecDepth 65536 in
set_option maxHeartbeats 40000000 in
theorem ctLA2_0 (l : Launch) (Z : State) (a0 : Array Value) (hw : ∀ d ∈ tables_1, d.before a0 Z = true) (hEL : EW Z a0 consts_1) (z0 : Int32) (S0 : Sta Z Z.heap "java/lang/String" "COMPACT_STRINGS" "Z" (.int z0)) (hz0 : ¬ z0 = 0) (fm : Value) (hfm : fm.isRef = true) (SF : Sta Z Z.heap "jdk/internal/util/Preconditions" "SIOOBE_FORMATTER" "Ljava/util/function/BiFunction;" fm) (r : Addr) (kr : ClassId) (c0 c1 : Int32) (h0 : Heap) (n0 : Nat) (A0 : Arv Z h0 r kr .byte (2 : Int32) [(.int (StrChars.lo8 c0)), (.int (StrChars.lo8 c1))] (.int (0 : Int32))) (r0 : Rc c0) (h8 : ¬ (255 : Int32) < c0) :
    Ct l Z consts_1 [] (⟨"java/lang/StringLatin1", "charAt", "([BI)C"⟩ : MethodName) jdk_43_method_2_code 2 (some .char) ({ frames := 2, cells := 0, slots := 0, locals := 27 } : Room) #[(.ref r), (.int (0 : Int32))] h0 n0 [] (fun v _ => v = some (.int c0)) := by
  have w : ∀ {d : Jvm.Cond} (i : Nat), tables_1[i]? = some d → d.before a0 Z = true := fun i q => hw _ (List.mem_of_getElem? q)
  refine Ct.enter (plainFor_of_name pn_4) hEL ?_
  intro p e sS m below meth c T0 hby hml0 hret hlk hnm hs0 X0
  have hml : c.maxLocals = 2 := hml0
  have D : ∀ {pc : Nat} {r : Except DecodeError (Instr × Nat)}, decode jdk_43_method_2_code pc = r → decode c.code pc = r := fun q => hb hby q
  rw [show entryFrame m #[(.ref r), (.int (0 : Int32))] 2 = mkF m 0 #[.val (.ref r), .val (.int (0 : Int32))] [] from by first | (simp [entryFrame, mkF, argsToLocals, Value.category]; done) | rfl]
  refine X0.iloadN (x := (0 : Int32)) (D d13_0) rfl ?_
  refine X0.aloadN (x := (.ref r)) (D d13_1) rfl rfl ?_
  refine X0.alen A0 (D d13_2) ?_
  refine X0.calls [(.int (0 : Int32)), (.int (2 : Int32))] [] (ctSci l Z a0 hw hEL z0 S0 hz0 fm hfm SF (0 : Int32) (2 : Int32) _ _ (by decide) (by decide)) (w 67 rfl) (w 68 rfl) (w 10 rfl) (w 69 rfl) (by decide) (fun _ q => nomatch q) (by decide) 0 (by decide) (by decide) (by decide) (lenOf pd_12 rfl) rfl (leb rfl) (by rw [hml]; rfl) (D d13_3) ?_
  rintro T1653 h1654 _ X1656 K1657 rfl
  have F1658 := A0.keep K1657 nin0
  show Goes p.tables e below _ (T1653.setTop (mkF m 6 #[.val (.ref r), .val (.int (0 : Int32))] []))
  refine X1656.aloadN (x := (.ref r)) (D d13_6) rfl rfl ?_
  refine X1656.iloadN (x := (0 : Int32)) (D d13_7) rfl ?_
  show Goes p.tables e below _ (T1653.setTop (mkF m 8 #[.val (.ref r), .val (.int (0 : Int32))] [(.int (0 : Int32)), (.ref r)]))
  refine X1656.baload (v := (.int (StrChars.lo8 c0))) F1658 ⟨by decide, by decide⟩ rfl (D d13_8) ?_
  refine X1656.sipush (x := (255 : Int32)) (D d13_9) rfl ?_
  refine X1656.iand (D d13_12) ?_
  refine X1656.i2c (D d13_13) ?_
  exact X1656.reti hret (by simp) hlk (D d13_14) (by decide) (by decide) (ret_lo r0 h8)
set_option maxRecDepth 65536 in
set_option maxHeartbeats 40000000 in
theorem ctCA2_0 (l : Launch) (Z : State) (a0 : Array Value) (hw : ∀ d ∈ tables_1, d.before a0 Z = true) (hEL : EW Z a0 consts_1) (z0 : Int32) (S0 : Sta Z Z.heap "java/lang/String" "COMPACT_STRINGS" "Z" (.int z0)) (hz0 : ¬ z0 = 0) (SA1 : Sta Z Z.heap "java/lang/StringUTF16" "$assertionsDisabled" "Z" (.int (1 : Int32))) (SH : Sta Z Z.heap "java/lang/StringUTF16" "HI_BYTE_SHIFT" "I" (.int (0 : Int32))) (SL : Sta Z Z.heap "java/lang/StringUTF16" "LO_BYTE_SHIFT" "I" (.int (8 : Int32))) (fm : Value) (hfm : fm.isRef = true) (SF : Sta Z Z.heap "jdk/internal/util/Preconditions" "SIOOBE_FORMATTER" "Ljava/util/function/BiFunction;" fm) (s : Addr) (c0 c1 : Int32) (h0 : Heap) (n0 : Nat) (WS : WStr Z h0 s [c0, c1]) (r0 : Rc c0) :
    Ct l Z consts_1 [] (⟨"java/lang/String", "charAt", "(I)C"⟩ : MethodName) jdk_42_method_56_code 2 (some .char) ({ frames := 4, cells := 0, slots := 0, locals := 53 } : Room) #[(.ref s), (.int (0 : Int32))] h0 n0 [] (fun v _ => v = some (.int c0)) := by
  have w : ∀ {d : Jvm.Cond} (i : Nat), tables_1[i]? = some d → d.before a0 Z = true := fun i q => hw _ (List.mem_of_getElem? q)
  refine Ct.enter (plainFor_of_name pn_1) hEL ?_
  intro p e sS m below meth c T0 hby hml0 hret hlk hnm hs0 X0
  have hml : c.maxLocals = 2 := hml0
  have D : ∀ {pc : Nat} {r : Except DecodeError (Instr × Nat)}, decode jdk_42_method_56_code pc = r → decode c.code pc = r := fun q => hb hby q
  rw [show entryFrame m #[(.ref s), (.int (0 : Int32))] 2 = mkF m 0 #[.val (.ref s), .val (.int (0 : Int32))] [] from by first | (simp [entryFrame, mkF, argsToLocals, Value.category]; done) | rfl]
  show Goes p.tables e below _ (T0.setTop (mkF m 0 #[.val (.ref s), .val (.int (0 : Int32))] []))
  rcases WS with ⟨t, OU⟩ | ⟨t, OU⟩
  · show Goes p.tables e below _ (T0.setTop (mkF m 0 #[.val (.ref s), .val (.int (0 : Int32))] []))
    obtain ⟨F1659, hb8, -, kb1660, F1661, F1662, F1663⟩ := id OU
    have F1664 : Arv Z h0 t kb1660 .byte (2 : Int32) [(.int (StrChars.lo8 c0)), (.int (StrChars.lo8 c1))] (.int (0 : Int32)) := F1663
    refine X0.aloadN (x := (.ref s)) (D d11_0) rfl rfl ?_
    refine X0.callv (y := (⟨"java/lang/String", "isLatin1", "()Z"⟩ : MethodName)) (a := s) (C := "java/lang/String") [] [] (ctIsL0 l Z a0 hw hEL z0 S0 hz0 s _ _ F1662) F1659 (w 58 rfl) (w 59 rfl) (w 61 rfl) (w 60 rfl) (w 10 rfl) (w 62 rfl) (by decide) (fun _ q => nomatch q) (by decide) 0 (by decide) (by decide) (by decide) (lenOf pd_14 rfl) rfl (leb rfl) (by rw [hml]; rfl) (D d11_1) ?_
    rintro T1665 h1666 _ X1668 K1669 rfl
    have F1670 := F1659.keep K1669
    have F1671 := F1661.keep K1669 nin0
    have F1672 := F1662.keep K1669 nin0
    have F1673 := F1664.keep K1669 nin0
    show Goes p.tables e below _ (T1665.setTop (mkF m 4 #[.val (.ref s), .val (.int (0 : Int32))] [(.int (1 : Int32))]))
    refine X1668.if_eq 16 (D d11_4) ⟨by decide, by decide⟩ (fun hc1674 => absurd hc1674 (by decide)) (fun hc1674 => ?_)
    refine X1668.aloadN (x := (.ref s)) (D d11_7) rfl rfl ?_
    refine X1668.getf (w 28 rfl) Via.refl F1671 (D d11_8) ?_
    intro T1675 X1676
    refine X1676.iloadN (x := (0 : Int32)) (D d11_11) rfl ?_
    refine X1676.calls [(.ref t), (.int (0 : Int32))] [] (ctLA2_0 l Z a0 hw hEL z0 S0 hz0 fm hfm SF t _ c0 c1 _ _ F1673 r0 (hb8 c0 (by simp)).2) (w 63 rfl) (w 64 rfl) (w 65 rfl) (w 66 rfl) (by decide) (fun _ q => nomatch q) (by decide) 0 (by decide) (by decide) (by decide) (lenOf pd_7 rfl) rfl (leb rfl) (by rw [hml]; rfl) (D d11_12) ?_
    rintro T1677 h1678 _ X1680 K1681 rfl
    have F1682 := F1670.keep K1681
    have F1683 := F1671.keep K1681 nin0
    have F1684 := F1672.keep K1681 nin0
    have F1685 := F1673.keep K1681 nin0
    show Goes p.tables e below _ (T1677.setTop (mkF m 15 #[.val (.ref s), .val (.int (0 : Int32))] [(.int c0)]))
    exact X1680.reti hret (by simp) hlk (D d11_15) (by decide) (by decide) (congrArg (fun z => some (Value.int z)) (nar_id r0))
  · show Goes p.tables e below _ (T0.setTop (mkF m 0 #[.val (.ref s), .val (.int (0 : Int32))] []))
    obtain ⟨F1686, kb1687, F1688, F1689, F1690⟩ := id OU
    have F1691 : Arv Z h0 t kb1687 .byte (4 : Int32) [(.int (StrChars.lo8 c0)), (.int (StrChars.hi8 c0)), (.int (StrChars.lo8 c1)), (.int (StrChars.hi8 c1))] (.int (0 : Int32)) := F1690
    refine X0.aloadN (x := (.ref s)) (D d11_0) rfl rfl ?_
    refine X0.callv (y := (⟨"java/lang/String", "isLatin1", "()Z"⟩ : MethodName)) (a := s) (C := "java/lang/String") [] [] (ctIsL1 l Z a0 hw hEL z0 S0 hz0 s _ _ F1689) F1686 (w 58 rfl) (w 59 rfl) (w 61 rfl) (w 60 rfl) (w 10 rfl) (w 62 rfl) (by decide) (fun _ q => nomatch q) (by decide) 0 (by decide) (by decide) (by decide) (lenOf pd_14 rfl) rfl (leb rfl) (by rw [hml]; rfl) (D d11_1) ?_
    rintro T1692 h1693 _ X1695 K1696 rfl
    have F1697 := F1686.keep K1696
    have F1698 := F1688.keep K1696 nin0
    have F1699 := F1689.keep K1696 nin0
    have F1700 := F1691.keep K1696 nin0
    show Goes p.tables e below _ (T1692.setTop (mkF m 4 #[.val (.ref s), .val (.int (0 : Int32))] [(.int (0 : Int32))]))
    refine X1695.if_eq 16 (D d11_4) ⟨by decide, by decide⟩ (fun hc1701 => ?_) (fun hc1701 => absurd hc1701 (by decide))
    refine X1695.aloadN (x := (.ref s)) (D d11_16) rfl rfl ?_
    refine X1695.getf (w 28 rfl) Via.refl F1698 (D d11_17) ?_
    intro T1702 X1703
    refine X1703.iloadN (x := (0 : Int32)) (D d11_20) rfl ?_
    refine X1703.calls [(.ref t), (.int (0 : Int32))] [] (ctUA2_0 l Z a0 hw hEL z0 S0 hz0 SA1 SH SL fm hfm SF t _ c0 c1 _ _ F1700 r0) (w 104 rfl) (w 105 rfl) (w 42 rfl) (w 106 rfl) (by decide) (fun _ q => nomatch q) (by decide) 0 (by decide) (by decide) (by decide) (lenOf pd_7 rfl) rfl (leb rfl) (by rw [hml]; rfl) (D d11_21) ?_
    rintro T1704 h1705 _ X1707 K1708 rfl
    have F1709 := F1697.keep K1708
    have F1710 := F1698.keep K1708 nin0
    have F1711 := F1699.keep K1708 nin0
    have F1712 := F1700.keep K1708 nin0
    show Goes p.tables e below _ (T1704.setTop (mkF m 24 #[.val (.ref s), .val (.int (0 : Int32))] [(.int c0)]))
    exact X1707.reti hret (by simp) hlk (D d11_24) (by decide) (by decide) (congrArg (fun z => some (Value.int z)) (nar_id r0))
set_option maxRecDepth 65536 in
set_option maxHeartbeats 40000000 in
theorem ctUC2_1 (l : Launch) (Z : State) (a0 : Array Value) (hw : ∀ d ∈ tables_1, d.before a0 Z = true) (hEL : EW Z a0 consts_1) (z0 : Int32) (S0 : Sta Z Z.heap "java/lang/String" "COMPACT_STRINGS" "Z" (.int z0)) (hz0 : ¬ z0 = 0) (fm : Value) (hfm : fm.isRef = true) (SF : Sta Z Z.heap "jdk/internal/util/Preconditions" "SIOOBE_FORMATTER" "Ljava/util/function/BiFunction;" fm) (r : Addr) (kr : ClassId) (vs : List Value) (dv : Value) (h0 : Heap) (n0 : Nat) (A0 : Arv Z h0 r kr .byte (4 : Int32) vs dv) :
    Ct l Z consts_1 [] (⟨"java/lang/StringUTF16", "checkIndex", "(I[B)V"⟩ : MethodName) jdk_52_method_91_code 2 none ({ frames := 2, cells := 0, slots := 0, locals := 27 } : Room) #[(.int (1 : Int32)), (.ref r)] h0 n0 [] (fun v _ => v = none) := by
  have w : ∀ {d : Jvm.Cond} (i : Nat), tables_1[i]? = some d → d.before a0 Z = true := fun i q => hw _ (List.mem_of_getElem? q)
  refine Ct.enter (plainFor_of_name pn_2) hEL ?_
  intro p e sS m below meth c T0 hby hml0 hret hlk hnm hs0 X0
  have hml : c.maxLocals = 2 := hml0
  have D : ∀ {pc : Nat} {r : Except DecodeError (Instr × Nat)}, decode jdk_52_method_91_code pc = r → decode c.code pc = r := fun q => hb hby q
  rw [show entryFrame m #[(.int (1 : Int32)), (.ref r)] 2 = mkF m 0 #[.val (.int (1 : Int32)), .val (.ref r)] [] from by first | (simp [entryFrame, mkF, argsToLocals, Value.category]; done) | rfl]
  refine X0.iloadN (x := (1 : Int32)) (D d24_0) rfl ?_
  refine X0.aloadN (x := (.ref r)) (D d24_1) rfl rfl ?_
  refine X0.calls [(.ref r)] [(.int (1 : Int32))] (ctUL2 l Z a0 hw hEL z0 S0 hz0 r kr _ _ _ _ A0) (w 110 rfl) (w 111 rfl) (w 42 rfl) (w 112 rfl) (by decide) (fun _ q => nomatch q) (by decide) 1 (by decide) (by decide) (by decide) (lenOf pd_11 rfl) rfl (leb rfl) (by rw [hml]; rfl) (D d24_2) ?_
  rintro T1713 h1714 _ X1716 K1717 rfl
  have F1718 := A0.keep K1717 nin0
  show Goes p.tables e below _ (T1713.setTop (mkF m 5 #[.val (.int (1 : Int32)), .val (.ref r)] [(.int (2 : Int32)), (.int (1 : Int32))]))
  refine X1716.calls [(.int (1 : Int32)), (.int (2 : Int32))] [] (ctSci l Z a0 hw hEL z0 S0 hz0 fm hfm SF (1 : Int32) (2 : Int32) _ _ (by decide) (by decide)) (w 113 rfl) (w 68 rfl) (w 10 rfl) (w 69 rfl) (by decide) (fun _ q => nomatch q) (by decide) 0 (by decide) (by decide) (by decide) (lenOf pd_12 rfl) rfl (leb rfl) (by rw [hml]; rfl) (D d24_5) ?_
  rintro T1719 h1720 _ X1722 K1723 rfl
  have F1724 := F1718.keep K1723 nin0
  show Goes p.tables e below _ (T1719.setTop (mkF m 8 #[.val (.int (1 : Int32)), .val (.ref r)] []))
  exact X1722.retn hret hlk (D d24_8) (by decide) (by decide) (rfl)
set_option maxRecDepth 65536 in
set_option maxHeartbeats 40000000 in
theorem ctUA2_1 (l : Launch) (Z : State) (a0 : Array Value) (hw : ∀ d ∈ tables_1, d.before a0 Z = true) (hEL : EW Z a0 consts_1) (z0 : Int32) (S0 : Sta Z Z.heap "java/lang/String" "COMPACT_STRINGS" "Z" (.int z0)) (hz0 : ¬ z0 = 0) (SA1 : Sta Z Z.heap "java/lang/StringUTF16" "$assertionsDisabled" "Z" (.int (1 : Int32))) (SH : Sta Z Z.heap "java/lang/StringUTF16" "HI_BYTE_SHIFT" "I" (.int (0 : Int32))) (SL : Sta Z Z.heap "java/lang/StringUTF16" "LO_BYTE_SHIFT" "I" (.int (8 : Int32))) (fm : Value) (hfm : fm.isRef = true) (SF : Sta Z Z.heap "jdk/internal/util/Preconditions" "SIOOBE_FORMATTER" "Ljava/util/function/BiFunction;" fm) (r : Addr) (kr : ClassId) (c0 c1 : Int32) (h0 : Heap) (n0 : Nat) (A0 : Arv Z h0 r kr .byte (4 : Int32) [(.int (StrChars.lo8 c0)), (.int (StrChars.hi8 c0)), (.int (StrChars.lo8 c1)), (.int (StrChars.hi8 c1))] (.int (0 : Int32))) (r1 : Rc c1) :
    Ct l Z consts_1 [] (⟨"java/lang/StringUTF16", "charAt", "([BI)C"⟩ : MethodName) jdk_52_method_83_code 2 (some .char) ({ frames := 3, cells := 0, slots := 0, locals := 40 } : Room) #[(.ref r), (.int (1 : Int32))] h0 n0 [] (fun v _ => v = some (.int c1)) := by
  have w : ∀ {d : Jvm.Cond} (i : Nat), tables_1[i]? = some d → d.before a0 Z = true := fun i q => hw _ (List.mem_of_getElem? q)
  refine Ct.enter (plainFor_of_name pn_2) hEL ?_
  intro p e sS m below meth c T0 hby hml0 hret hlk hnm hs0 X0
  have hml : c.maxLocals = 2 := hml0
  have D : ∀ {pc : Nat} {r : Except DecodeError (Instr × Nat)}, decode jdk_52_method_83_code pc = r → decode c.code pc = r := fun q => hb hby q
  rw [show entryFrame m #[(.ref r), (.int (1 : Int32))] 2 = mkF m 0 #[.val (.ref r), .val (.int (1 : Int32))] [] from by first | (simp [entryFrame, mkF, argsToLocals, Value.category]; done) | rfl]
  refine X0.iloadN (x := (1 : Int32)) (D d23_0) rfl ?_
  refine X0.aloadN (x := (.ref r)) (D d23_1) rfl rfl ?_
  refine X0.calls [(.int (1 : Int32)), (.ref r)] [] (ctUC2_1 l Z a0 hw hEL z0 S0 hz0 fm hfm SF r kr _ _ _ _ A0) (w 107 rfl) (w 108 rfl) (w 42 rfl) (w 109 rfl) (by decide) (fun _ q => nomatch q) (by decide) 0 (by decide) (by decide) (by decide) (lenOf pd_13 rfl) rfl (leb rfl) (by rw [hml]; rfl) (D d23_2) ?_
  rintro T1725 h1726 _ X1728 K1729 rfl
  have F1730 := A0.keep K1729 nin0
  show Goes p.tables e below _ (T1725.setTop (mkF m 5 #[.val (.ref r), .val (.int (1 : Int32))] []))
  refine X1728.aloadN (x := (.ref r)) (D d23_5) rfl rfl ?_
  refine X1728.iloadN (x := (1 : Int32)) (D d23_6) rfl ?_
  refine X1728.calls [(.ref r), (.int (1 : Int32))] [] (ctGC2_1 l Z a0 hw hEL z0 S0 hz0 SA1 SH SL r kr c0 c1 _ _ F1730 r1) (w 101 rfl) (w 102 rfl) (w 42 rfl) (w 103 rfl) (by decide) (fun _ q => nomatch q) (by decide) 0 (by decide) (by decide) (by decide) (lenOf pd_7 rfl) rfl (leb rfl) (by rw [hml]; rfl) (D d23_7) ?_
  rintro T1731 h1732 _ X1734 K1735 rfl
  have F1736 := F1730.keep K1735 nin0
  show Goes p.tables e below _ (T1731.setTop (mkF m 10 #[.val (.ref r), .val (.int (1 : Int32))] [(.int c1)]))
  exact X1734.reti hret (by simp) hlk (D d23_10) (by decide) (by decide) (congrArg (fun z => some (Value.int z)) (nar_id r1))
set_option maxRecDepth 65536 in
set_option maxHeartbeats 40000000 in
theorem ctLA2_1 (l : Launch) (Z : State) (a0 : Array Value) (hw : ∀ d ∈ tables_1, d.before a0 Z = true) (hEL : EW Z a0 consts_1) (z0 : Int32) (S0 : Sta Z Z.heap "java/lang/String" "COMPACT_STRINGS" "Z" (.int z0)) (hz0 : ¬ z0 = 0) (fm : Value) (hfm : fm.isRef = true) (SF : Sta Z Z.heap "jdk/internal/util/Preconditions" "SIOOBE_FORMATTER" "Ljava/util/function/BiFunction;" fm) (r : Addr) (kr : ClassId) (c0 c1 : Int32) (h0 : Heap) (n0 : Nat) (A0 : Arv Z h0 r kr .byte (2 : Int32) [(.int (StrChars.lo8 c0)), (.int (StrChars.lo8 c1))] (.int (0 : Int32))) (r1 : Rc c1) (h8 : ¬ (255 : Int32) < c1) :
    Ct l Z consts_1 [] (⟨"java/lang/StringLatin1", "charAt", "([BI)C"⟩ : MethodName) jdk_43_method_2_code 2 (some .char) ({ frames := 2, cells := 0, slots := 0, locals := 27 } : Room) #[(.ref r), (.int (1 : Int32))] h0 n0 [] (fun v _ => v = some (.int c1)) := by
  have w : ∀ {d : Jvm.Cond} (i : Nat), tables_1[i]? = some d → d.before a0 Z = true := fun i q => hw _ (List.mem_of_getElem? q)
  refine Ct.enter (plainFor_of_name pn_4) hEL ?_
  intro p e sS m below meth c T0 hby hml0 hret hlk hnm hs0 X0
  have hml : c.maxLocals = 2 := hml0
  have D : ∀ {pc : Nat} {r : Except DecodeError (Instr × Nat)}, decode jdk_43_method_2_code pc = r → decode c.code pc = r := fun q => hb hby q
  rw [show entryFrame m #[(.ref r), (.int (1 : Int32))] 2 = mkF m 0 #[.val (.ref r), .val (.int (1 : Int32))] [] from by first | (simp [entryFrame, mkF, argsToLocals, Value.category]; done) | rfl]
  refine X0.iloadN (x := (1 : Int32)) (D d13_0) rfl ?_
  refine X0.aloadN (x := (.ref r)) (D d13_1) rfl rfl ?_
  refine X0.alen A0 (D d13_2) ?_
  refine X0.calls [(.int (1 : Int32)), (.int (2 : Int32))] [] (ctSci l Z a0 hw hEL z0 S0 hz0 fm hfm SF (1 : Int32) (2 : Int32) _ _ (by decide) (by decide)) (w 67 rfl) (w 68 rfl) (w 10 rfl) (w 69 rfl) (by decide) (fun _ q => nomatch q) (by decide) 0 (by decide) (by decide) (by decide) (lenOf pd_12 rfl) rfl (leb rfl) (by rw [hml]; rfl) (D d13_3) ?_
  rintro T1737 h1738 _ X1740 K1741 rfl
  have F1742 := A0.keep K1741 nin0
  show Goes p.tables e below _ (T1737.setTop (mkF m 6 #[.val (.ref r), .val (.int (1 : Int32))] []))
  refine X1740.aloadN (x := (.ref r)) (D d13_6) rfl rfl ?_
  refine X1740.iloadN (x := (1 : Int32)) (D d13_7) rfl ?_
  show Goes p.tables e below _ (T1737.setTop (mkF m 8 #[.val (.ref r), .val (.int (1 : Int32))] [(.int (1 : Int32)), (.ref r)]))
  refine X1740.baload (v := (.int (StrChars.lo8 c1))) F1742 ⟨by decide, by decide⟩ rfl (D d13_8) ?_
  refine X1740.sipush (x := (255 : Int32)) (D d13_9) rfl ?_
  refine X1740.iand (D d13_12) ?_
  refine X1740.i2c (D d13_13) ?_
  exact X1740.reti hret (by simp) hlk (D d13_14) (by decide) (by decide) (ret_lo r1 h8)
set_option maxRecDepth 65536 in
set_option maxHeartbeats 40000000 in
theorem ctCA2_1 (l : Launch) (Z : State) (a0 : Array Value) (hw : ∀ d ∈ tables_1, d.before a0 Z = true) (hEL : EW Z a0 consts_1) (z0 : Int32) (S0 : Sta Z Z.heap "java/lang/String" "COMPACT_STRINGS" "Z" (.int z0)) (hz0 : ¬ z0 = 0) (SA1 : Sta Z Z.heap "java/lang/StringUTF16" "$assertionsDisabled" "Z" (.int (1 : Int32))) (SH : Sta Z Z.heap "java/lang/StringUTF16" "HI_BYTE_SHIFT" "I" (.int (0 : Int32))) (SL : Sta Z Z.heap "java/lang/StringUTF16" "LO_BYTE_SHIFT" "I" (.int (8 : Int32))) (fm : Value) (hfm : fm.isRef = true) (SF : Sta Z Z.heap "jdk/internal/util/Preconditions" "SIOOBE_FORMATTER" "Ljava/util/function/BiFunction;" fm) (s : Addr) (c0 c1 : Int32) (h0 : Heap) (n0 : Nat) (WS : WStr Z h0 s [c0, c1]) (r1 : Rc c1) :
    Ct l Z consts_1 [] (⟨"java/lang/String", "charAt", "(I)C"⟩ : MethodName) jdk_42_method_56_code 2 (some .char) ({ frames := 4, cells := 0, slots := 0, locals := 53 } : Room) #[(.ref s), (.int (1 : Int32))] h0 n0 [] (fun v _ => v = some (.int c1)) := by
  have w : ∀ {d : Jvm.Cond} (i : Nat), tables_1[i]? = some d → d.before a0 Z = true := fun i q => hw _ (List.mem_of_getElem? q)
  refine Ct.enter (plainFor_of_name pn_1) hEL ?_
  intro p e sS m below meth c T0 hby hml0 hret hlk hnm hs0 X0
  have hml : c.maxLocals = 2 := hml0
  have D : ∀ {pc : Nat} {r : Except DecodeError (Instr × Nat)}, decode jdk_42_method_56_code pc = r → decode c.code pc = r := fun q => hb hby q
  rw [show entryFrame m #[(.ref s), (.int (1 : Int32))] 2 = mkF m 0 #[.val (.ref s), .val (.int (1 : Int32))] [] from by first | (simp [entryFrame, mkF, argsToLocals, Value.category]; done) | rfl]
  show Goes p.tables e below _ (T0.setTop (mkF m 0 #[.val (.ref s), .val (.int (1 : Int32))] []))
  rcases WS with ⟨t, OU⟩ | ⟨t, OU⟩
  · show Goes p.tables e below _ (T0.setTop (mkF m 0 #[.val (.ref s), .val (.int (1 : Int32))] []))
    obtain ⟨F1743, hb8, -, kb1744, F1745, F1746, F1747⟩ := id OU
    have F1748 : Arv Z h0 t kb1744 .byte (2 : Int32) [(.int (StrChars.lo8 c0)), (.int (StrChars.lo8 c1))] (.int (0 : Int32)) := F1747
    refine X0.aloadN (x := (.ref s)) (D d11_0) rfl rfl ?_
    refine X0.callv (y := (⟨"java/lang/String", "isLatin1", "()Z"⟩ : MethodName)) (a := s) (C := "java/lang/String") [] [] (ctIsL0 l Z a0 hw hEL z0 S0 hz0 s _ _ F1746) F1743 (w 58 rfl) (w 59 rfl) (w 61 rfl) (w 60 rfl) (w 10 rfl) (w 62 rfl) (by decide) (fun _ q => nomatch q) (by decide) 0 (by decide) (by decide) (by decide) (lenOf pd_14 rfl) rfl (leb rfl) (by rw [hml]; rfl) (D d11_1) ?_
    rintro T1749 h1750 _ X1752 K1753 rfl
    have F1754 := F1743.keep K1753
    have F1755 := F1745.keep K1753 nin0
    have F1756 := F1746.keep K1753 nin0
    have F1757 := F1748.keep K1753 nin0
    show Goes p.tables e below _ (T1749.setTop (mkF m 4 #[.val (.ref s), .val (.int (1 : Int32))] [(.int (1 : Int32))]))
    refine X1752.if_eq 16 (D d11_4) ⟨by decide, by decide⟩ (fun hc1758 => absurd hc1758 (by decide)) (fun hc1758 => ?_)
    refine X1752.aloadN (x := (.ref s)) (D d11_7) rfl rfl ?_
    refine X1752.getf (w 28 rfl) Via.refl F1755 (D d11_8) ?_
    intro T1759 X1760
    refine X1760.iloadN (x := (1 : Int32)) (D d11_11) rfl ?_
    refine X1760.calls [(.ref t), (.int (1 : Int32))] [] (ctLA2_1 l Z a0 hw hEL z0 S0 hz0 fm hfm SF t _ c0 c1 _ _ F1757 r1 (hb8 c1 (by simp)).2) (w 63 rfl) (w 64 rfl) (w 65 rfl) (w 66 rfl) (by decide) (fun _ q => nomatch q) (by decide) 0 (by decide) (by decide) (by decide) (lenOf pd_7 rfl) rfl (leb rfl) (by rw [hml]; rfl) (D d11_12) ?_
    rintro T1761 h1762 _ X1764 K1765 rfl
    have F1766 := F1754.keep K1765
    have F1767 := F1755.keep K1765 nin0
    have F1768 := F1756.keep K1765 nin0
    have F1769 := F1757.keep K1765 nin0
    show Goes p.tables e below _ (T1761.setTop (mkF m 15 #[.val (.ref s), .val (.int (1 : Int32))] [(.int c1)]))
    exact X1764.reti hret (by simp) hlk (D d11_15) (by decide) (by decide) (congrArg (fun z => some (Value.int z)) (nar_id r1))
  · show Goes p.tables e below _ (T0.setTop (mkF m 0 #[.val (.ref s), .val (.int (1 : Int32))] []))
    obtain ⟨F1770, kb1771, F1772, F1773, F1774⟩ := id OU
    have F1775 : Arv Z h0 t kb1771 .byte (4 : Int32) [(.int (StrChars.lo8 c0)), (.int (StrChars.hi8 c0)), (.int (StrChars.lo8 c1)), (.int (StrChars.hi8 c1))] (.int (0 : Int32)) := F1774
    refine X0.aloadN (x := (.ref s)) (D d11_0) rfl rfl ?_
    refine X0.callv (y := (⟨"java/lang/String", "isLatin1", "()Z"⟩ : MethodName)) (a := s) (C := "java/lang/String") [] [] (ctIsL1 l Z a0 hw hEL z0 S0 hz0 s _ _ F1773) F1770 (w 58 rfl) (w 59 rfl) (w 61 rfl) (w 60 rfl) (w 10 rfl) (w 62 rfl) (by decide) (fun _ q => nomatch q) (by decide) 0 (by decide) (by decide) (by decide) (lenOf pd_14 rfl) rfl (leb rfl) (by rw [hml]; rfl) (D d11_1) ?_
    rintro T1776 h1777 _ X1779 K1780 rfl
    have F1781 := F1770.keep K1780
    have F1782 := F1772.keep K1780 nin0
    have F1783 := F1773.keep K1780 nin0
    have F1784 := F1775.keep K1780 nin0
    show Goes p.tables e below _ (T1776.setTop (mkF m 4 #[.val (.ref s), .val (.int (1 : Int32))] [(.int (0 : Int32))]))
    refine X1779.if_eq 16 (D d11_4) ⟨by decide, by decide⟩ (fun hc1785 => ?_) (fun hc1785 => absurd hc1785 (by decide))
    refine X1779.aloadN (x := (.ref s)) (D d11_16) rfl rfl ?_
    refine X1779.getf (w 28 rfl) Via.refl F1782 (D d11_17) ?_
    intro T1786 X1787
    refine X1787.iloadN (x := (1 : Int32)) (D d11_20) rfl ?_
    refine X1787.calls [(.ref t), (.int (1 : Int32))] [] (ctUA2_1 l Z a0 hw hEL z0 S0 hz0 SA1 SH SL fm hfm SF t _ c0 c1 _ _ F1784 r1) (w 104 rfl) (w 105 rfl) (w 42 rfl) (w 106 rfl) (by decide) (fun _ q => nomatch q) (by decide) 0 (by decide) (by decide) (by decide) (lenOf pd_7 rfl) rfl (leb rfl) (by rw [hml]; rfl) (D d11_21) ?_
    rintro T1788 h1789 _ X1791 K1792 rfl
    have F1793 := F1781.keep K1792
    have F1794 := F1782.keep K1792 nin0
    have F1795 := F1783.keep K1792 nin0
    have F1796 := F1784.keep K1792 nin0
    show Goes p.tables e below _ (T1788.setTop (mkF m 24 #[.val (.ref s), .val (.int (1 : Int32))] [(.int c1)]))
    exact X1791.reti hret (by simp) hlk (D d11_24) (by decide) (by decide) (congrArg (fun z => some (Value.int z)) (nar_id r1))
set_option maxRecDepth 65536 in
set_option maxHeartbeats 40000000 in
theorem ctEm3 (l : Launch) (Z : State) (a0 : Array Value) (hw : ∀ d ∈ tables_1, d.before a0 Z = true) (hEL : EW Z a0 consts_1) (z0 : Int32) (S0 : Sta Z Z.heap "java/lang/String" "COMPACT_STRINGS" "Z" (.int z0)) (hz0 : ¬ z0 = 0) (s : Addr) (c0 c1 c2 : Int32) (h0 : Heap) (n0 : Nat) (WS : WStr Z h0 s [c0, c1, c2]) :
    Ct l Z consts_1 [] (⟨"java/lang/String", "isEmpty", "()Z"⟩ : MethodName) jdk_42_method_55_code 1 (some .boolean) ({ frames := 0, cells := 0, slots := 0, locals := 0 } : Room) #[(.ref s)] h0 n0 [] (fun v _ => v = some (.int (0 : Int32))) := by
  have w : ∀ {d : Jvm.Cond} (i : Nat), tables_1[i]? = some d → d.before a0 Z = true := fun i q => hw _ (List.mem_of_getElem? q)
  refine Ct.enter (plainFor_of_name pn_1) hEL ?_
  intro p e sS m below meth c T0 hby hml0 hret hlk hnm hs0 X0
  have hml : c.maxLocals = 1 := hml0
  have D : ∀ {pc : Nat} {r : Except DecodeError (Instr × Nat)}, decode jdk_42_method_55_code pc = r → decode c.code pc = r := fun q => hb hby q
  rw [show entryFrame m #[(.ref s)] 1 = mkF m 0 #[.val (.ref s)] [] from by first | (simp [entryFrame, mkF, argsToLocals, Value.category]; done) | rfl]
  show Goes p.tables e below _ (T0.setTop (mkF m 0 #[.val (.ref s)] []))
  rcases WS with ⟨t, OU⟩ | ⟨t, OU⟩
  · show Goes p.tables e below _ (T0.setTop (mkF m 0 #[.val (.ref s)] []))
    obtain ⟨F1797, hb8, -, kb1798, F1799, F1800, F1801⟩ := id OU
    have F1802 : Arv Z h0 t kb1798 .byte (3 : Int32) [(.int (StrChars.lo8 c0)), (.int (StrChars.lo8 c1)), (.int (StrChars.lo8 c2))] (.int (0 : Int32)) := F1801
    refine X0.aloadN (x := (.ref s)) (D d6_0) rfl rfl ?_
    refine X0.getf (w 28 rfl) Via.refl F1799 (D d6_1) ?_
    intro T1803 X1804
    refine X1804.alen F1802 (D d6_4) ?_
    refine X1804.if_ne 12 (D d6_5) ⟨by decide, by decide⟩ (fun hc1805 => ?_) (fun hc1805 => absurd hc1805 (by decide))
    refine X1804.iconst (x := (0 : Int32)) (D d6_12) rfl ?_
    exact X1804.reti hret (by simp) hlk (D d6_13) (by decide) (by decide) (rfl)
  · show Goes p.tables e below _ (T0.setTop (mkF m 0 #[.val (.ref s)] []))
    obtain ⟨F1806, kb1807, F1808, F1809, F1810⟩ := id OU
    have F1811 : Arv Z h0 t kb1807 .byte (6 : Int32) [(.int (StrChars.lo8 c0)), (.int (StrChars.hi8 c0)), (.int (StrChars.lo8 c1)), (.int (StrChars.hi8 c1)), (.int (StrChars.lo8 c2)), (.int (StrChars.hi8 c2))] (.int (0 : Int32)) := F1810
    refine X0.aloadN (x := (.ref s)) (D d6_0) rfl rfl ?_
    refine X0.getf (w 28 rfl) Via.refl F1808 (D d6_1) ?_
    intro T1812 X1813
    refine X1813.alen F1811 (D d6_4) ?_
    refine X1813.if_ne 12 (D d6_5) ⟨by decide, by decide⟩ (fun hc1814 => ?_) (fun hc1814 => absurd hc1814 (by decide))
    refine X1813.iconst (x := (0 : Int32)) (D d6_12) rfl ?_
    exact X1813.reti hret (by simp) hlk (D d6_13) (by decide) (by decide) (rfl)
set_option maxRecDepth 65536 in
set_option maxHeartbeats 40000000 in
theorem ctLn3 (l : Launch) (Z : State) (a0 : Array Value) (hw : ∀ d ∈ tables_1, d.before a0 Z = true) (hEL : EW Z a0 consts_1) (z0 : Int32) (S0 : Sta Z Z.heap "java/lang/String" "COMPACT_STRINGS" "Z" (.int z0)) (hz0 : ¬ z0 = 0) (s : Addr) (c0 c1 c2 : Int32) (h0 : Heap) (n0 : Nat) (WS : WStr Z h0 s [c0, c1, c2]) :
    Ct l Z consts_1 [] (⟨"java/lang/String", "length", "()I"⟩ : MethodName) jdk_42_method_54_code 1 (some .int) ({ frames := 1, cells := 0, slots := 0, locals := 13 } : Room) #[(.ref s)] h0 n0 [] (fun v _ => v = some (.int (3 : Int32))) := by
  have w : ∀ {d : Jvm.Cond} (i : Nat), tables_1[i]? = some d → d.before a0 Z = true := fun i q => hw _ (List.mem_of_getElem? q)
  refine Ct.enter (plainFor_of_name pn_1) hEL ?_
  intro p e sS m below meth c T0 hby hml0 hret hlk hnm hs0 X0
  have hml : c.maxLocals = 1 := hml0
  have D : ∀ {pc : Nat} {r : Except DecodeError (Instr × Nat)}, decode jdk_42_method_54_code pc = r → decode c.code pc = r := fun q => hb hby q
  rw [show entryFrame m #[(.ref s)] 1 = mkF m 0 #[.val (.ref s)] [] from by first | (simp [entryFrame, mkF, argsToLocals, Value.category]; done) | rfl]
  show Goes p.tables e below _ (T0.setTop (mkF m 0 #[.val (.ref s)] []))
  rcases WS with ⟨t, OU⟩ | ⟨t, OU⟩
  · show Goes p.tables e below _ (T0.setTop (mkF m 0 #[.val (.ref s)] []))
    obtain ⟨F1815, hb8, -, kb1816, F1817, F1818, F1819⟩ := id OU
    have F1820 : Arv Z h0 t kb1816 .byte (3 : Int32) [(.int (StrChars.lo8 c0)), (.int (StrChars.lo8 c1)), (.int (StrChars.lo8 c2))] (.int (0 : Int32)) := F1819
    refine X0.aloadN (x := (.ref s)) (D d16_0) rfl rfl ?_
    refine X0.getf (w 28 rfl) Via.refl F1817 (D d16_1) ?_
    intro T1821 X1822
    refine X1822.alen F1820 (D d16_4) ?_
    refine X1822.aloadN (x := (.ref s)) (D d16_5) rfl rfl ?_
    refine X1822.callv (y := (⟨"java/lang/String", "coder", "()B"⟩ : MethodName)) (a := s) (C := "java/lang/String") [] [(.int (3 : Int32))] (ctCdr0 l Z a0 hw hEL z0 S0 hz0 s _ _ F1818) F1815 (w 80 rfl) (w 81 rfl) (w 83 rfl) (w 82 rfl) (w 10 rfl) (w 84 rfl) (by decide) (fun _ q => nomatch q) (by decide) 1 (by decide) (by decide) (by decide) (lenOf pd_10 rfl) rfl (leb rfl) (by rw [hml]; rfl) (D d16_6) ?_
    rintro T1823 h1824 _ X1826 K1827 rfl
    have F1828 := F1815.keep K1827
    have F1829 := F1817.keep K1827 nin0
    have F1830 := F1818.keep K1827 nin0
    have F1831 := F1820.keep K1827 nin0
    show Goes p.tables e below _ (T1823.setTop (mkF m 9 #[.val (.ref s)] [(.int (0 : Int32)), (.int (3 : Int32))]))
    refine X1826.ishr (D d16_9) ?_
    show Goes p.tables e below _ (T1823.setTop (mkF m 10 #[.val (.ref s)] [(.int (3 : Int32))]))
    exact X1826.retI hret hlk (D d16_10) (by decide) (by decide) (rfl)
  · show Goes p.tables e below _ (T0.setTop (mkF m 0 #[.val (.ref s)] []))
    obtain ⟨F1832, kb1833, F1834, F1835, F1836⟩ := id OU
    have F1837 : Arv Z h0 t kb1833 .byte (6 : Int32) [(.int (StrChars.lo8 c0)), (.int (StrChars.hi8 c0)), (.int (StrChars.lo8 c1)), (.int (StrChars.hi8 c1)), (.int (StrChars.lo8 c2)), (.int (StrChars.hi8 c2))] (.int (0 : Int32)) := F1836
    refine X0.aloadN (x := (.ref s)) (D d16_0) rfl rfl ?_
    refine X0.getf (w 28 rfl) Via.refl F1834 (D d16_1) ?_
    intro T1838 X1839
    refine X1839.alen F1837 (D d16_4) ?_
    refine X1839.aloadN (x := (.ref s)) (D d16_5) rfl rfl ?_
    refine X1839.callv (y := (⟨"java/lang/String", "coder", "()B"⟩ : MethodName)) (a := s) (C := "java/lang/String") [] [(.int (6 : Int32))] (ctCdr1 l Z a0 hw hEL z0 S0 hz0 s _ _ F1835) F1832 (w 80 rfl) (w 81 rfl) (w 83 rfl) (w 82 rfl) (w 10 rfl) (w 84 rfl) (by decide) (fun _ q => nomatch q) (by decide) 1 (by decide) (by decide) (by decide) (lenOf pd_10 rfl) rfl (leb rfl) (by rw [hml]; rfl) (D d16_6) ?_
    rintro T1840 h1841 _ X1843 K1844 rfl
    have F1845 := F1832.keep K1844
    have F1846 := F1834.keep K1844 nin0
    have F1847 := F1835.keep K1844 nin0
    have F1848 := F1837.keep K1844 nin0
    show Goes p.tables e below _ (T1840.setTop (mkF m 9 #[.val (.ref s)] [(.int (1 : Int32)), (.int (6 : Int32))]))
    refine X1843.ishr (D d16_9) ?_
    show Goes p.tables e below _ (T1840.setTop (mkF m 10 #[.val (.ref s)] [(.int (3 : Int32))]))
    exact X1843.retI hret hlk (D d16_10) (by decide) (by decide) (rfl)
set_option maxRecDepth 65536 in
set_option maxHeartbeats 40000000 in
theorem ctUL3 (l : Launch) (Z : State) (a0 : Array Value) (hw : ∀ d ∈ tables_1, d.before a0 Z = true) (hEL : EW Z a0 consts_1) (z0 : Int32) (S0 : Sta Z Z.heap "java/lang/String" "COMPACT_STRINGS" "Z" (.int z0)) (hz0 : ¬ z0 = 0) (r : Addr) (kr : ClassId) (vs : List Value) (dv : Value) (h0 : Heap) (n0 : Nat) (A0 : Arv Z h0 r kr .byte (6 : Int32) vs dv) :
    Ct l Z consts_1 [] (⟨"java/lang/StringUTF16", "length", "([B)I"⟩ : MethodName) jdk_52_method_6_code 1 (some .int) ({ frames := 0, cells := 0, slots := 0, locals := 0 } : Room) #[(.ref r)] h0 n0 [] (fun v _ => v = some (.int (3 : Int32))) := by
  have w : ∀ {d : Jvm.Cond} (i : Nat), tables_1[i]? = some d → d.before a0 Z = true := fun i q => hw _ (List.mem_of_getElem? q)
  refine Ct.enter (plainFor_of_name pn_2) hEL ?_
  intro p e sS m below meth c T0 hby hml0 hret hlk hnm hs0 X0
  have hml : c.maxLocals = 1 := hml0
  have D : ∀ {pc : Nat} {r : Except DecodeError (Instr × Nat)}, decode jdk_52_method_6_code pc = r → decode c.code pc = r := fun q => hb hby q
  rw [show entryFrame m #[(.ref r)] 1 = mkF m 0 #[.val (.ref r)] [] from by first | (simp [entryFrame, mkF, argsToLocals, Value.category]; done) | rfl]
  refine X0.aloadN (x := (.ref r)) (D d25_0) rfl rfl ?_
  refine X0.alen A0 (D d25_1) ?_
  refine X0.iconst (x := (1 : Int32)) (D d25_2) rfl ?_
  refine X0.ishr (D d25_3) ?_
  show Goes p.tables e below _ (T0.setTop (mkF m 4 #[.val (.ref r)] [(.int (3 : Int32))]))
  exact X0.retI hret hlk (D d25_4) (by decide) (by decide) (rfl)
set_option maxRecDepth 65536 in
set_option maxHeartbeats 40000000 in
theorem ctUC3_0 (l : Launch) (Z : State) (a0 : Array Value) (hw : ∀ d ∈ tables_1, d.before a0 Z = true) (hEL : EW Z a0 consts_1) (z0 : Int32) (S0 : Sta Z Z.heap "java/lang/String" "COMPACT_STRINGS" "Z" (.int z0)) (hz0 : ¬ z0 = 0) (fm : Value) (hfm : fm.isRef = true) (SF : Sta Z Z.heap "jdk/internal/util/Preconditions" "SIOOBE_FORMATTER" "Ljava/util/function/BiFunction;" fm) (r : Addr) (kr : ClassId) (vs : List Value) (dv : Value) (h0 : Heap) (n0 : Nat) (A0 : Arv Z h0 r kr .byte (6 : Int32) vs dv) :
    Ct l Z consts_1 [] (⟨"java/lang/StringUTF16", "checkIndex", "(I[B)V"⟩ : MethodName) jdk_52_method_91_code 2 none ({ frames := 2, cells := 0, slots := 0, locals := 27 } : Room) #[(.int (0 : Int32)), (.ref r)] h0 n0 [] (fun v _ => v = none) := by
  have w : ∀ {d : Jvm.Cond} (i : Nat), tables_1[i]? = some d → d.before a0 Z = true := fun i q => hw _ (List.mem_of_getElem? q)
  refine Ct.enter (plainFor_of_name pn_2) hEL ?_
  intro p e sS m below meth c T0 hby hml0 hret hlk hnm hs0 X0
  have hml : c.maxLocals = 2 := hml0
  have D : ∀ {pc : Nat} {r : Except DecodeError (Instr × Nat)}, decode jdk_52_method_91_code pc = r → decode c.code pc = r := fun q => hb hby q
  rw [show entryFrame m #[(.int (0 : Int32)), (.ref r)] 2 = mkF m 0 #[.val (.int (0 : Int32)), .val (.ref r)] [] from by first | (simp [entryFrame, mkF, argsToLocals, Value.category]; done) | rfl]
  refine X0.iloadN (x := (0 : Int32)) (D d24_0) rfl ?_
  refine X0.aloadN (x := (.ref r)) (D d24_1) rfl rfl ?_
  refine X0.calls [(.ref r)] [(.int (0 : Int32))] (ctUL3 l Z a0 hw hEL z0 S0 hz0 r kr _ _ _ _ A0) (w 110 rfl) (w 111 rfl) (w 42 rfl) (w 112 rfl) (by decide) (fun _ q => nomatch q) (by decide) 1 (by decide) (by decide) (by decide) (lenOf pd_11 rfl) rfl (leb rfl) (by rw [hml]; rfl) (D d24_2) ?_
  rintro T1849 h1850 _ X1852 K1853 rfl
  have F1854 := A0.keep K1853 nin0
  show Goes p.tables e below _ (T1849.setTop (mkF m 5 #[.val (.int (0 : Int32)), .val (.ref r)] [(.int (3 : Int32)), (.int (0 : Int32))]))
  refine X1852.calls [(.int (0 : Int32)), (.int (3 : Int32))] [] (ctSci l Z a0 hw hEL z0 S0 hz0 fm hfm SF (0 : Int32) (3 : Int32) _ _ (by decide) (by decide)) (w 113 rfl) (w 68 rfl) (w 10 rfl) (w 69 rfl) (by decide) (fun _ q => nomatch q) (by decide) 0 (by decide) (by decide) (by decide) (lenOf pd_12 rfl) rfl (leb rfl) (by rw [hml]; rfl) (D d24_5) ?_
  rintro T1855 h1856 _ X1858 K1859 rfl
  have F1860 := F1854.keep K1859 nin0
  show Goes p.tables e below _ (T1855.setTop (mkF m 8 #[.val (.int (0 : Int32)), .val (.ref r)] []))
  exact X1858.retn hret hlk (D d24_8) (by decide) (by decide) (rfl)
set_option maxRecDepth 65536 in
set_option maxHeartbeats 40000000 in
theorem ctUA3_0 (l : Launch) (Z : State) (a0 : Array Value) (hw : ∀ d ∈ tables_1, d.before a0 Z = true) (hEL : EW Z a0 consts_1) (z0 : Int32) (S0 : Sta Z Z.heap "java/lang/String" "COMPACT_STRINGS" "Z" (.int z0)) (hz0 : ¬ z0 = 0) (SA1 : Sta Z Z.heap "java/lang/StringUTF16" "$assertionsDisabled" "Z" (.int (1 : Int32))) (SH : Sta Z Z.heap "java/lang/StringUTF16" "HI_BYTE_SHIFT" "I" (.int (0 : Int32))) (SL : Sta Z Z.heap "java/lang/StringUTF16" "LO_BYTE_SHIFT" "I" (.int (8 : Int32))) (fm : Value) (hfm : fm.isRef = true) (SF : Sta Z Z.heap "jdk/internal/util/Preconditions" "SIOOBE_FORMATTER" "Ljava/util/function/BiFunction;" fm) (r : Addr) (kr : ClassId) (c0 c1 c2 : Int32) (h0 : Heap) (n0 : Nat) (A0 : Arv Z h0 r kr .byte (6 : Int32) [(.int (StrChars.lo8 c0)), (.int (StrChars.hi8 c0)), (.int (StrChars.lo8 c1)), (.int (StrChars.hi8 c1)), (.int (StrChars.lo8 c2)), (.int (StrChars.hi8 c2))] (.int (0 : Int32))) (r0 : Rc c0) :
    Ct l Z consts_1 [] (⟨"java/lang/StringUTF16", "charAt", "([BI)C"⟩ : MethodName) jdk_52_method_83_code 2 (some .char) ({ frames := 3, cells := 0, slots := 0, locals := 40 } : Room) #[(.ref r), (.int (0 : Int32))] h0 n0 [] (fun v _ => v = some (.int c0)) := by
  have w : ∀ {d : Jvm.Cond} (i : Nat), tables_1[i]? = some d → d.before a0 Z = true := fun i q => hw _ (List.mem_of_getElem? q)
  refine Ct.enter (plainFor_of_name pn_2) hEL ?_
  intro p e sS m below meth c T0 hby hml0 hret hlk hnm hs0 X0
  have hml : c.maxLocals = 2 := hml0
  have D : ∀ {pc : Nat} {r : Except DecodeError (Instr × Nat)}, decode jdk_52_method_83_code pc = r → decode c.code pc = r := fun q => hb hby q
  rw [show entryFrame m #[(.ref r), (.int (0 : Int32))] 2 = mkF m 0 #[.val (.ref r), .val (.int (0 : Int32))] [] from by first | (simp [entryFrame, mkF, argsToLocals, Value.category]; done) | rfl]
  refine X0.iloadN (x := (0 : Int32)) (D d23_0) rfl ?_
  refine X0.aloadN (x := (.ref r)) (D d23_1) rfl rfl ?_
  refine X0.calls [(.int (0 : Int32)), (.ref r)] [] (ctUC3_0 l Z a0 hw hEL z0 S0 hz0 fm hfm SF r kr _ _ _ _ A0) (w 107 rfl) (w 108 rfl) (w 42 rfl) (w 109 rfl) (by decide) (fun _ q => nomatch q) (by decide) 0 (by decide) (by decide) (by decide) (lenOf pd_13 rfl) rfl (leb rfl) (by rw [hml]; rfl) (D d23_2) ?_
  rintro T1861 h1862 _ X1864 K1865 rfl
  have F1866 := A0.keep K1865 nin0
  show Goes p.tables e below _ (T1861.setTop (mkF m 5 #[.val (.ref r), .val (.int (0 : Int32))] []))
  refine X1864.aloadN (x := (.ref r)) (D d23_5) rfl rfl ?_
  refine X1864.iloadN (x := (0 : Int32)) (D d23_6) rfl ?_
  refine X1864.calls [(.ref r), (.int (0 : Int32))] [] (ctGC3_0 l Z a0 hw hEL z0 S0 hz0 SA1 SH SL r kr c0 c1 c2 _ _ F1866 r0) (w 101 rfl) (w 102 rfl) (w 42 rfl) (w 103 rfl) (by decide) (fun _ q => nomatch q) (by decide) 0 (by decide) (by decide) (by decide) (lenOf pd_7 rfl) rfl (leb rfl) (by rw [hml]; rfl) (D d23_7) ?_
  rintro T1867 h1868 _ X1870 K1871 rfl
  have F1872 := F1866.keep K1871 nin0
  show Goes p.tables e below _ (T1867.setTop (mkF m 10 #[.val (.ref r), .val (.int (0 : Int32))] [(.int c0)]))
  exact X1870.reti hret (by simp) hlk (D d23_10) (by decide) (by decide) (congrArg (fun z => some (Value.int z)) (nar_id r0))
set_option maxRecDepth 65536 in
set_option maxHeartbeats 40000000 in
theorem ctLA3_0 (l : Launch) (Z : State) (a0 : Array Value) (hw : ∀ d ∈ tables_1, d.before a0 Z = true) (hEL : EW Z a0 consts_1) (z0 : Int32) (S0 : Sta Z Z.heap "java/lang/String" "COMPACT_STRINGS" "Z" (.int z0)) (hz0 : ¬ z0 = 0) (fm : Value) (hfm : fm.isRef = true) (SF : Sta Z Z.heap "jdk/internal/util/Preconditions" "SIOOBE_FORMATTER" "Ljava/util/function/BiFunction;" fm) (r : Addr) (kr : ClassId) (c0 c1 c2 : Int32) (h0 : Heap) (n0 : Nat) (A0 : Arv Z h0 r kr .byte (3 : Int32) [(.int (StrChars.lo8 c0)), (.int (StrChars.lo8 c1)), (.int (StrChars.lo8 c2))] (.int (0 : Int32))) (r0 : Rc c0) (h8 : ¬ (255 : Int32) < c0) :
    Ct l Z consts_1 [] (⟨"java/lang/StringLatin1", "charAt", "([BI)C"⟩ : MethodName) jdk_43_method_2_code 2 (some .char) ({ frames := 2, cells := 0, slots := 0, locals := 27 } : Room) #[(.ref r), (.int (0 : Int32))] h0 n0 [] (fun v _ => v = some (.int c0)) := by
  have w : ∀ {d : Jvm.Cond} (i : Nat), tables_1[i]? = some d → d.before a0 Z = true := fun i q => hw _ (List.mem_of_getElem? q)
  refine Ct.enter (plainFor_of_name pn_4) hEL ?_
  intro p e sS m below meth c T0 hby hml0 hret hlk hnm hs0 X0
  have hml : c.maxLocals = 2 := hml0
  have D : ∀ {pc : Nat} {r : Except DecodeError (Instr × Nat)}, decode jdk_43_method_2_code pc = r → decode c.code pc = r := fun q => hb hby q
  rw [show entryFrame m #[(.ref r), (.int (0 : Int32))] 2 = mkF m 0 #[.val (.ref r), .val (.int (0 : Int32))] [] from by first | (simp [entryFrame, mkF, argsToLocals, Value.category]; done) | rfl]
  refine X0.iloadN (x := (0 : Int32)) (D d13_0) rfl ?_
  refine X0.aloadN (x := (.ref r)) (D d13_1) rfl rfl ?_
  refine X0.alen A0 (D d13_2) ?_
  refine X0.calls [(.int (0 : Int32)), (.int (3 : Int32))] [] (ctSci l Z a0 hw hEL z0 S0 hz0 fm hfm SF (0 : Int32) (3 : Int32) _ _ (by decide) (by decide)) (w 67 rfl) (w 68 rfl) (w 10 rfl) (w 69 rfl) (by decide) (fun _ q => nomatch q) (by decide) 0 (by decide) (by decide) (by decide) (lenOf pd_12 rfl) rfl (leb rfl) (by rw [hml]; rfl) (D d13_3) ?_
  rintro T1873 h1874 _ X1876 K1877 rfl
  have F1878 := A0.keep K1877 nin0
  show Goes p.tables e below _ (T1873.setTop (mkF m 6 #[.val (.ref r), .val (.int (0 : Int32))] []))
  refine X1876.aloadN (x := (.ref r)) (D d13_6) rfl rfl ?_
  refine X1876.iloadN (x := (0 : Int32)) (D d13_7) rfl ?_
  show Goes p.tables e below _ (T1873.setTop (mkF m 8 #[.val (.ref r), .val (.int (0 : Int32))] [(.int (0 : Int32)), (.ref r)]))
  refine X1876.baload (v := (.int (StrChars.lo8 c0))) F1878 ⟨by decide, by decide⟩ rfl (D d13_8) ?_
  refine X1876.sipush (x := (255 : Int32)) (D d13_9) rfl ?_
  refine X1876.iand (D d13_12) ?_
  refine X1876.i2c (D d13_13) ?_
  exact X1876.reti hret (by simp) hlk (D d13_14) (by decide) (by decide) (ret_lo r0 h8)
set_option maxRecDepth 65536 in
set_option maxHeartbeats 40000000 in
theorem ctCA3_0 (l : Launch) (Z : State) (a0 : Array Value) (hw : ∀ d ∈ tables_1, d.before a0 Z = true) (hEL : EW Z a0 consts_1) (z0 : Int32) (S0 : Sta Z Z.heap "java/lang/String" "COMPACT_STRINGS" "Z" (.int z0)) (hz0 : ¬ z0 = 0) (SA1 : Sta Z Z.heap "java/lang/StringUTF16" "$assertionsDisabled" "Z" (.int (1 : Int32))) (SH : Sta Z Z.heap "java/lang/StringUTF16" "HI_BYTE_SHIFT" "I" (.int (0 : Int32))) (SL : Sta Z Z.heap "java/lang/StringUTF16" "LO_BYTE_SHIFT" "I" (.int (8 : Int32))) (fm : Value) (hfm : fm.isRef = true) (SF : Sta Z Z.heap "jdk/internal/util/Preconditions" "SIOOBE_FORMATTER" "Ljava/util/function/BiFunction;" fm) (s : Addr) (c0 c1 c2 : Int32) (h0 : Heap) (n0 : Nat) (WS : WStr Z h0 s [c0, c1, c2]) (r0 : Rc c0) :
    Ct l Z consts_1 [] (⟨"java/lang/String", "charAt", "(I)C"⟩ : MethodName) jdk_42_method_56_code 2 (some .char) ({ frames := 4, cells := 0, slots := 0, locals := 53 } : Room) #[(.ref s), (.int (0 : Int32))] h0 n0 [] (fun v _ => v = some (.int c0)) := by
  have w : ∀ {d : Jvm.Cond} (i : Nat), tables_1[i]? = some d → d.before a0 Z = true := fun i q => hw _ (List.mem_of_getElem? q)
  refine Ct.enter (plainFor_of_name pn_1) hEL ?_
  intro p e sS m below meth c T0 hby hml0 hret hlk hnm hs0 X0
  have hml : c.maxLocals = 2 := hml0
  have D : ∀ {pc : Nat} {r : Except DecodeError (Instr × Nat)}, decode jdk_42_method_56_code pc = r → decode c.code pc = r := fun q => hb hby q
  rw [show entryFrame m #[(.ref s), (.int (0 : Int32))] 2 = mkF m 0 #[.val (.ref s), .val (.int (0 : Int32))] [] from by first | (simp [entryFrame, mkF, argsToLocals, Value.category]; done) | rfl]
  show Goes p.tables e below _ (T0.setTop (mkF m 0 #[.val (.ref s), .val (.int (0 : Int32))] []))
  rcases WS with ⟨t, OU⟩ | ⟨t, OU⟩
  · show Goes p.tables e below _ (T0.setTop (mkF m 0 #[.val (.ref s), .val (.int (0 : Int32))] []))
    obtain ⟨F1879, hb8, -, kb1880, F1881, F1882, F1883⟩ := id OU
    have F1884 : Arv Z h0 t kb1880 .byte (3 : Int32) [(.int (StrChars.lo8 c0)), (.int (StrChars.lo8 c1)), (.int (StrChars.lo8 c2))] (.int (0 : Int32)) := F1883
    refine X0.aloadN (x := (.ref s)) (D d11_0) rfl rfl ?_
    refine X0.callv (y := (⟨"java/lang/String", "isLatin1", "()Z"⟩ : MethodName)) (a := s) (C := "java/lang/String") [] [] (ctIsL0 l Z a0 hw hEL z0 S0 hz0 s _ _ F1882) F1879 (w 58 rfl) (w 59 rfl) (w 61 rfl) (w 60 rfl) (w 10 rfl) (w 62 rfl) (by decide) (fun _ q => nomatch q) (by decide) 0 (by decide) (by decide) (by decide) (lenOf pd_14 rfl) rfl (leb rfl) (by rw [hml]; rfl) (D d11_1) ?_
    rintro T1885 h1886 _ X1888 K1889 rfl
    have F1890 := F1879.keep K1889
    have F1891 := F1881.keep K1889 nin0
    have F1892 := F1882.keep K1889 nin0
    have F1893 := F1884.keep K1889 nin0
    show Goes p.tables e below _ (T1885.setTop (mkF m 4 #[.val (.ref s), .val (.int (0 : Int32))] [(.int (1 : Int32))]))
    refine X1888.if_eq 16 (D d11_4) ⟨by decide, by decide⟩ (fun hc1894 => absurd hc1894 (by decide)) (fun hc1894 => ?_)
    refine X1888.aloadN (x := (.ref s)) (D d11_7) rfl rfl ?_
    refine X1888.getf (w 28 rfl) Via.refl F1891 (D d11_8) ?_
    intro T1895 X1896
    refine X1896.iloadN (x := (0 : Int32)) (D d11_11) rfl ?_
    refine X1896.calls [(.ref t), (.int (0 : Int32))] [] (ctLA3_0 l Z a0 hw hEL z0 S0 hz0 fm hfm SF t _ c0 c1 c2 _ _ F1893 r0 (hb8 c0 (by simp)).2) (w 63 rfl) (w 64 rfl) (w 65 rfl) (w 66 rfl) (by decide) (fun _ q => nomatch q) (by decide) 0 (by decide) (by decide) (by decide) (lenOf pd_7 rfl) rfl (leb rfl) (by rw [hml]; rfl) (D d11_12) ?_
    rintro T1897 h1898 _ X1900 K1901 rfl
    have F1902 := F1890.keep K1901
    have F1903 := F1891.keep K1901 nin0
    have F1904 := F1892.keep K1901 nin0
    have F1905 := F1893.keep K1901 nin0
    show Goes p.tables e below _ (T1897.setTop (mkF m 15 #[.val (.ref s), .val (.int (0 : Int32))] [(.int c0)]))
    exact X1900.reti hret (by simp) hlk (D d11_15) (by decide) (by decide) (congrArg (fun z => some (Value.int z)) (nar_id r0))
  · show Goes p.tables e below _ (T0.setTop (mkF m 0 #[.val (.ref s), .val (.int (0 : Int32))] []))
    obtain ⟨F1906, kb1907, F1908, F1909, F1910⟩ := id OU
    have F1911 : Arv Z h0 t kb1907 .byte (6 : Int32) [(.int (StrChars.lo8 c0)), (.int (StrChars.hi8 c0)), (.int (StrChars.lo8 c1)), (.int (StrChars.hi8 c1)), (.int (StrChars.lo8 c2)), (.int (StrChars.hi8 c2))] (.int (0 : Int32)) := F1910
    refine X0.aloadN (x := (.ref s)) (D d11_0) rfl rfl ?_
    refine X0.callv (y := (⟨"java/lang/String", "isLatin1", "()Z"⟩ : MethodName)) (a := s) (C := "java/lang/String") [] [] (ctIsL1 l Z a0 hw hEL z0 S0 hz0 s _ _ F1909) F1906 (w 58 rfl) (w 59 rfl) (w 61 rfl) (w 60 rfl) (w 10 rfl) (w 62 rfl) (by decide) (fun _ q => nomatch q) (by decide) 0 (by decide) (by decide) (by decide) (lenOf pd_14 rfl) rfl (leb rfl) (by rw [hml]; rfl) (D d11_1) ?_
    rintro T1912 h1913 _ X1915 K1916 rfl
    have F1917 := F1906.keep K1916
    have F1918 := F1908.keep K1916 nin0
    have F1919 := F1909.keep K1916 nin0
    have F1920 := F1911.keep K1916 nin0
    show Goes p.tables e below _ (T1912.setTop (mkF m 4 #[.val (.ref s), .val (.int (0 : Int32))] [(.int (0 : Int32))]))
    refine X1915.if_eq 16 (D d11_4) ⟨by decide, by decide⟩ (fun hc1921 => ?_) (fun hc1921 => absurd hc1921 (by decide))
    refine X1915.aloadN (x := (.ref s)) (D d11_16) rfl rfl ?_
    refine X1915.getf (w 28 rfl) Via.refl F1918 (D d11_17) ?_
    intro T1922 X1923
    refine X1923.iloadN (x := (0 : Int32)) (D d11_20) rfl ?_
    refine X1923.calls [(.ref t), (.int (0 : Int32))] [] (ctUA3_0 l Z a0 hw hEL z0 S0 hz0 SA1 SH SL fm hfm SF t _ c0 c1 c2 _ _ F1920 r0) (w 104 rfl) (w 105 rfl) (w 42 rfl) (w 106 rfl) (by decide) (fun _ q => nomatch q) (by decide) 0 (by decide) (by decide) (by decide) (lenOf pd_7 rfl) rfl (leb rfl) (by rw [hml]; rfl) (D d11_21) ?_
    rintro T1924 h1925 _ X1927 K1928 rfl
    have F1929 := F1917.keep K1928
    have F1930 := F1918.keep K1928 nin0
    have F1931 := F1919.keep K1928 nin0
    have F1932 := F1920.keep K1928 nin0
    show Goes p.tables e below _ (T1924.setTop (mkF m 24 #[.val (.ref s), .val (.int (0 : Int32))] [(.int c0)]))
    exact X1927.reti hret (by simp) hlk (D d11_24) (by decide) (by decide) (congrArg (fun z => some (Value.int z)) (nar_id r0))
set_option maxRecDepth 65536 in
set_option maxHeartbeats 40000000 in
theorem ctUC3_1 (l : Launch) (Z : State) (a0 : Array Value) (hw : ∀ d ∈ tables_1, d.before a0 Z = true) (hEL : EW Z a0 consts_1) (z0 : Int32) (S0 : Sta Z Z.heap "java/lang/String" "COMPACT_STRINGS" "Z" (.int z0)) (hz0 : ¬ z0 = 0) (fm : Value) (hfm : fm.isRef = true) (SF : Sta Z Z.heap "jdk/internal/util/Preconditions" "SIOOBE_FORMATTER" "Ljava/util/function/BiFunction;" fm) (r : Addr) (kr : ClassId) (vs : List Value) (dv : Value) (h0 : Heap) (n0 : Nat) (A0 : Arv Z h0 r kr .byte (6 : Int32) vs dv) :
    Ct l Z consts_1 [] (⟨"java/lang/StringUTF16", "checkIndex", "(I[B)V"⟩ : MethodName) jdk_52_method_91_code 2 none ({ frames := 2, cells := 0, slots := 0, locals := 27 } : Room) #[(.int (1 : Int32)), (.ref r)] h0 n0 [] (fun v _ => v = none) := by
  have w : ∀ {d : Jvm.Cond} (i : Nat), tables_1[i]? = some d → d.before a0 Z = true := fun i q => hw _ (List.mem_of_getElem? q)
  refine Ct.enter (plainFor_of_name pn_2) hEL ?_
  intro p e sS m below meth c T0 hby hml0 hret hlk hnm hs0 X0
  have hml : c.maxLocals = 2 := hml0
  have D : ∀ {pc : Nat} {r : Except DecodeError (Instr × Nat)}, decode jdk_52_method_91_code pc = r → decode c.code pc = r := fun q => hb hby q
  rw [show entryFrame m #[(.int (1 : Int32)), (.ref r)] 2 = mkF m 0 #[.val (.int (1 : Int32)), .val (.ref r)] [] from by first | (simp [entryFrame, mkF, argsToLocals, Value.category]; done) | rfl]
  refine X0.iloadN (x := (1 : Int32)) (D d24_0) rfl ?_
  refine X0.aloadN (x := (.ref r)) (D d24_1) rfl rfl ?_
  refine X0.calls [(.ref r)] [(.int (1 : Int32))] (ctUL3 l Z a0 hw hEL z0 S0 hz0 r kr _ _ _ _ A0) (w 110 rfl) (w 111 rfl) (w 42 rfl) (w 112 rfl) (by decide) (fun _ q => nomatch q) (by decide) 1 (by decide) (by decide) (by decide) (lenOf pd_11 rfl) rfl (leb rfl) (by rw [hml]; rfl) (D d24_2) ?_
  rintro T1933 h1934 _ X1936 K1937 rfl
  have F1938 := A0.keep K1937 nin0
  show Goes p.tables e below _ (T1933.setTop (mkF m 5 #[.val (.int (1 : Int32)), .val (.ref r)] [(.int (3 : Int32)), (.int (1 : Int32))]))
  refine X1936.calls [(.int (1 : Int32)), (.int (3 : Int32))] [] (ctSci l Z a0 hw hEL z0 S0 hz0 fm hfm SF (1 : Int32) (3 : Int32) _ _ (by decide) (by decide)) (w 113 rfl) (w 68 rfl) (w 10 rfl) (w 69 rfl) (by decide) (fun _ q => nomatch q) (by decide) 0 (by decide) (by decide) (by decide) (lenOf pd_12 rfl) rfl (leb rfl) (by rw [hml]; rfl) (D d24_5) ?_
  rintro T1939 h1940 _ X1942 K1943 rfl
  have F1944 := F1938.keep K1943 nin0
  show Goes p.tables e below _ (T1939.setTop (mkF m 8 #[.val (.int (1 : Int32)), .val (.ref r)] []))
  exact X1942.retn hret hlk (D d24_8) (by decide) (by decide) (rfl)
set_option maxRecDepth 65536 in
set_option maxHeartbeats 40000000 in
theorem ctUA3_1 (l : Launch) (Z : State) (a0 : Array Value) (hw : ∀ d ∈ tables_1, d.before a0 Z = true) (hEL : EW Z a0 consts_1) (z0 : Int32) (S0 : Sta Z Z.heap "java/lang/String" "COMPACT_STRINGS" "Z" (.int z0)) (hz0 : ¬ z0 = 0) (SA1 : Sta Z Z.heap "java/lang/StringUTF16" "$assertionsDisabled" "Z" (.int (1 : Int32))) (SH : Sta Z Z.heap "java/lang/StringUTF16" "HI_BYTE_SHIFT" "I" (.int (0 : Int32))) (SL : Sta Z Z.heap "java/lang/StringUTF16" "LO_BYTE_SHIFT" "I" (.int (8 : Int32))) (fm : Value) (hfm : fm.isRef = true) (SF : Sta Z Z.heap "jdk/internal/util/Preconditions" "SIOOBE_FORMATTER" "Ljava/util/function/BiFunction;" fm) (r : Addr) (kr : ClassId) (c0 c1 c2 : Int32) (h0 : Heap) (n0 : Nat) (A0 : Arv Z h0 r kr .byte (6 : Int32) [(.int (StrChars.lo8 c0)), (.int (StrChars.hi8 c0)), (.int (StrChars.lo8 c1)), (.int (StrChars.hi8 c1)), (.int (StrChars.lo8 c2)), (.int (StrChars.hi8 c2))] (.int (0 : Int32))) (r1 : Rc c1) :
    Ct l Z consts_1 [] (⟨"java/lang/StringUTF16", "charAt", "([BI)C"⟩ : MethodName) jdk_52_method_83_code 2 (some .char) ({ frames := 3, cells := 0, slots := 0, locals := 40 } : Room) #[(.ref r), (.int (1 : Int32))] h0 n0 [] (fun v _ => v = some (.int c1)) := by
  have w : ∀ {d : Jvm.Cond} (i : Nat), tables_1[i]? = some d → d.before a0 Z = true := fun i q => hw _ (List.mem_of_getElem? q)
  refine Ct.enter (plainFor_of_name pn_2) hEL ?_
  intro p e sS m below meth c T0 hby hml0 hret hlk hnm hs0 X0
  have hml : c.maxLocals = 2 := hml0
  have D : ∀ {pc : Nat} {r : Except DecodeError (Instr × Nat)}, decode jdk_52_method_83_code pc = r → decode c.code pc = r := fun q => hb hby q
  rw [show entryFrame m #[(.ref r), (.int (1 : Int32))] 2 = mkF m 0 #[.val (.ref r), .val (.int (1 : Int32))] [] from by first | (simp [entryFrame, mkF, argsToLocals, Value.category]; done) | rfl]
  refine X0.iloadN (x := (1 : Int32)) (D d23_0) rfl ?_
  refine X0.aloadN (x := (.ref r)) (D d23_1) rfl rfl ?_
  refine X0.calls [(.int (1 : Int32)), (.ref r)] [] (ctUC3_1 l Z a0 hw hEL z0 S0 hz0 fm hfm SF r kr _ _ _ _ A0) (w 107 rfl) (w 108 rfl) (w 42 rfl) (w 109 rfl) (by decide) (fun _ q => nomatch q) (by decide) 0 (by decide) (by decide) (by decide) (lenOf pd_13 rfl) rfl (leb rfl) (by rw [hml]; rfl) (D d23_2) ?_
  rintro T1945 h1946 _ X1948 K1949 rfl
  have F1950 := A0.keep K1949 nin0
  show Goes p.tables e below _ (T1945.setTop (mkF m 5 #[.val (.ref r), .val (.int (1 : Int32))] []))
  refine X1948.aloadN (x := (.ref r)) (D d23_5) rfl rfl ?_
  refine X1948.iloadN (x := (1 : Int32)) (D d23_6) rfl ?_
  refine X1948.calls [(.ref r), (.int (1 : Int32))] [] (ctGC3_1 l Z a0 hw hEL z0 S0 hz0 SA1 SH SL r kr c0 c1 c2 _ _ F1950 r1) (w 101 rfl) (w 102 rfl) (w 42 rfl) (w 103 rfl) (by decide) (fun _ q => nomatch q) (by decide) 0 (by decide) (by decide) (by decide) (lenOf pd_7 rfl) rfl (leb rfl) (by rw [hml]; rfl) (D d23_7) ?_
  rintro T1951 h1952 _ X1954 K1955 rfl
  have F1956 := F1950.keep K1955 nin0
  show Goes p.tables e below _ (T1951.setTop (mkF m 10 #[.val (.ref r), .val (.int (1 : Int32))] [(.int c1)]))
  exact X1954.reti hret (by simp) hlk (D d23_10) (by decide) (by decide) (congrArg (fun z => some (Value.int z)) (nar_id r1))
set_option maxRecDepth 65536 in
set_option maxHeartbeats 40000000 in
theorem ctLA3_1 (l : Launch) (Z : State) (a0 : Array Value) (hw : ∀ d ∈ tables_1, d.before a0 Z = true) (hEL : EW Z a0 consts_1) (z0 : Int32) (S0 : Sta Z Z.heap "java/lang/String" "COMPACT_STRINGS" "Z" (.int z0)) (hz0 : ¬ z0 = 0) (fm : Value) (hfm : fm.isRef = true) (SF : Sta Z Z.heap "jdk/internal/util/Preconditions" "SIOOBE_FORMATTER" "Ljava/util/function/BiFunction;" fm) (r : Addr) (kr : ClassId) (c0 c1 c2 : Int32) (h0 : Heap) (n0 : Nat) (A0 : Arv Z h0 r kr .byte (3 : Int32) [(.int (StrChars.lo8 c0)), (.int (StrChars.lo8 c1)), (.int (StrChars.lo8 c2))] (.int (0 : Int32))) (r1 : Rc c1) (h8 : ¬ (255 : Int32) < c1) :
    Ct l Z consts_1 [] (⟨"java/lang/StringLatin1", "charAt", "([BI)C"⟩ : MethodName) jdk_43_method_2_code 2 (some .char) ({ frames := 2, cells := 0, slots := 0, locals := 27 } : Room) #[(.ref r), (.int (1 : Int32))] h0 n0 [] (fun v _ => v = some (.int c1)) := by
  have w : ∀ {d : Jvm.Cond} (i : Nat), tables_1[i]? = some d → d.before a0 Z = true := fun i q => hw _ (List.mem_of_getElem? q)
  refine Ct.enter (plainFor_of_name pn_4) hEL ?_
  intro p e sS m below meth c T0 hby hml0 hret hlk hnm hs0 X0
  have hml : c.maxLocals = 2 := hml0
  have D : ∀ {pc : Nat} {r : Except DecodeError (Instr × Nat)}, decode jdk_43_method_2_code pc = r → decode c.code pc = r := fun q => hb hby q
  rw [show entryFrame m #[(.ref r), (.int (1 : Int32))] 2 = mkF m 0 #[.val (.ref r), .val (.int (1 : Int32))] [] from by first | (simp [entryFrame, mkF, argsToLocals, Value.category]; done) | rfl]
  refine X0.iloadN (x := (1 : Int32)) (D d13_0) rfl ?_
  refine X0.aloadN (x := (.ref r)) (D d13_1) rfl rfl ?_
  refine X0.alen A0 (D d13_2) ?_
  refine X0.calls [(.int (1 : Int32)), (.int (3 : Int32))] [] (ctSci l Z a0 hw hEL z0 S0 hz0 fm hfm SF (1 : Int32) (3 : Int32) _ _ (by decide) (by decide)) (w 67 rfl) (w 68 rfl) (w 10 rfl) (w 69 rfl) (by decide) (fun _ q => nomatch q) (by decide) 0 (by decide) (by decide) (by decide) (lenOf pd_12 rfl) rfl (leb rfl) (by rw [hml]; rfl) (D d13_3) ?_
  rintro T1957 h1958 _ X1960 K1961 rfl
  have F1962 := A0.keep K1961 nin0
  show Goes p.tables e below _ (T1957.setTop (mkF m 6 #[.val (.ref r), .val (.int (1 : Int32))] []))
  refine X1960.aloadN (x := (.ref r)) (D d13_6) rfl rfl ?_
  refine X1960.iloadN (x := (1 : Int32)) (D d13_7) rfl ?_
  show Goes p.tables e below _ (T1957.setTop (mkF m 8 #[.val (.ref r), .val (.int (1 : Int32))] [(.int (1 : Int32)), (.ref r)]))
  refine X1960.baload (v := (.int (StrChars.lo8 c1))) F1962 ⟨by decide, by decide⟩ rfl (D d13_8) ?_
  refine X1960.sipush (x := (255 : Int32)) (D d13_9) rfl ?_
  refine X1960.iand (D d13_12) ?_
  refine X1960.i2c (D d13_13) ?_
  exact X1960.reti hret (by simp) hlk (D d13_14) (by decide) (by decide) (ret_lo r1 h8)
set_option maxRecDepth 65536 in
set_option maxHeartbeats 40000000 in
theorem ctCA3_1 (l : Launch) (Z : State) (a0 : Array Value) (hw : ∀ d ∈ tables_1, d.before a0 Z = true) (hEL : EW Z a0 consts_1) (z0 : Int32) (S0 : Sta Z Z.heap "java/lang/String" "COMPACT_STRINGS" "Z" (.int z0)) (hz0 : ¬ z0 = 0) (SA1 : Sta Z Z.heap "java/lang/StringUTF16" "$assertionsDisabled" "Z" (.int (1 : Int32))) (SH : Sta Z Z.heap "java/lang/StringUTF16" "HI_BYTE_SHIFT" "I" (.int (0 : Int32))) (SL : Sta Z Z.heap "java/lang/StringUTF16" "LO_BYTE_SHIFT" "I" (.int (8 : Int32))) (fm : Value) (hfm : fm.isRef = true) (SF : Sta Z Z.heap "jdk/internal/util/Preconditions" "SIOOBE_FORMATTER" "Ljava/util/function/BiFunction;" fm) (s : Addr) (c0 c1 c2 : Int32) (h0 : Heap) (n0 : Nat) (WS : WStr Z h0 s [c0, c1, c2]) (r1 : Rc c1) :
    Ct l Z consts_1 [] (⟨"java/lang/String", "charAt", "(I)C"⟩ : MethodName) jdk_42_method_56_code 2 (some .char) ({ frames := 4, cells := 0, slots := 0, locals := 53 } : Room) #[(.ref s), (.int (1 : Int32))] h0 n0 [] (fun v _ => v = some (.int c1)) := by
  have w : ∀ {d : Jvm.Cond} (i : Nat), tables_1[i]? = some d → d.before a0 Z = true := fun i q => hw _ (List.mem_of_getElem? q)
  refine Ct.enter (plainFor_of_name pn_1) hEL ?_
  intro p e sS m below meth c T0 hby hml0 hret hlk hnm hs0 X0
  have hml : c.maxLocals = 2 := hml0
  have D : ∀ {pc : Nat} {r : Except DecodeError (Instr × Nat)}, decode jdk_42_method_56_code pc = r → decode c.code pc = r := fun q => hb hby q
  rw [show entryFrame m #[(.ref s), (.int (1 : Int32))] 2 = mkF m 0 #[.val (.ref s), .val (.int (1 : Int32))] [] from by first | (simp [entryFrame, mkF, argsToLocals, Value.category]; done) | rfl]
  show Goes p.tables e below _ (T0.setTop (mkF m 0 #[.val (.ref s), .val (.int (1 : Int32))] []))
  rcases WS with ⟨t, OU⟩ | ⟨t, OU⟩
  · show Goes p.tables e below _ (T0.setTop (mkF m 0 #[.val (.ref s), .val (.int (1 : Int32))] []))
    obtain ⟨F1963, hb8, -, kb1964, F1965, F1966, F1967⟩ := id OU
    have F1968 : Arv Z h0 t kb1964 .byte (3 : Int32) [(.int (StrChars.lo8 c0)), (.int (StrChars.lo8 c1)), (.int (StrChars.lo8 c2))] (.int (0 : Int32)) := F1967
    refine X0.aloadN (x := (.ref s)) (D d11_0) rfl rfl ?_
    refine X0.callv (y := (⟨"java/lang/String", "isLatin1", "()Z"⟩ : MethodName)) (a := s) (C := "java/lang/String") [] [] (ctIsL0 l Z a0 hw hEL z0 S0 hz0 s _ _ F1966) F1963 (w 58 rfl) (w 59 rfl) (w 61 rfl) (w 60 rfl) (w 10 rfl) (w 62 rfl) (by decide) (fun _ q => nomatch q) (by decide) 0 (by decide) (by decide) (by decide) (lenOf pd_14 rfl) rfl (leb rfl) (by rw [hml]; rfl) (D d11_1) ?_
    rintro T1969 h1970 _ X1972 K1973 rfl
    have F1974 := F1963.keep K1973
    have F1975 := F1965.keep K1973 nin0
    have F1976 := F1966.keep K1973 nin0
    have F1977 := F1968.keep K1973 nin0
    show Goes p.tables e below _ (T1969.setTop (mkF m 4 #[.val (.ref s), .val (.int (1 : Int32))] [(.int (1 : Int32))]))
    refine X1972.if_eq 16 (D d11_4) ⟨by decide, by decide⟩ (fun hc1978 => absurd hc1978 (by decide)) (fun hc1978 => ?_)
    refine X1972.aloadN (x := (.ref s)) (D d11_7) rfl rfl ?_
    refine X1972.getf (w 28 rfl) Via.refl F1975 (D d11_8) ?_
    intro T1979 X1980
    refine X1980.iloadN (x := (1 : Int32)) (D d11_11) rfl ?_
    refine X1980.calls [(.ref t), (.int (1 : Int32))] [] (ctLA3_1 l Z a0 hw hEL z0 S0 hz0 fm hfm SF t _ c0 c1 c2 _ _ F1977 r1 (hb8 c1 (by simp)).2) (w 63 rfl) (w 64 rfl) (w 65 rfl) (w 66 rfl) (by decide) (fun _ q => nomatch q) (by decide) 0 (by decide) (by decide) (by decide) (lenOf pd_7 rfl) rfl (leb rfl) (by rw [hml]; rfl) (D d11_12) ?_
    rintro T1981 h1982 _ X1984 K1985 rfl
    have F1986 := F1974.keep K1985
    have F1987 := F1975.keep K1985 nin0
    have F1988 := F1976.keep K1985 nin0
    have F1989 := F1977.keep K1985 nin0
    show Goes p.tables e below _ (T1981.setTop (mkF m 15 #[.val (.ref s), .val (.int (1 : Int32))] [(.int c1)]))
    exact X1984.reti hret (by simp) hlk (D d11_15) (by decide) (by decide) (congrArg (fun z => some (Value.int z)) (nar_id r1))
  · show Goes p.tables e below _ (T0.setTop (mkF m 0 #[.val (.ref s), .val (.int (1 : Int32))] []))
    obtain ⟨F1990, kb1991, F1992, F1993, F1994⟩ := id OU
    have F1995 : Arv Z h0 t kb1991 .byte (6 : Int32) [(.int (StrChars.lo8 c0)), (.int (StrChars.hi8 c0)), (.int (StrChars.lo8 c1)), (.int (StrChars.hi8 c1)), (.int (StrChars.lo8 c2)), (.int (StrChars.hi8 c2))] (.int (0 : Int32)) := F1994
    refine X0.aloadN (x := (.ref s)) (D d11_0) rfl rfl ?_
    refine X0.callv (y := (⟨"java/lang/String", "isLatin1", "()Z"⟩ : MethodName)) (a := s) (C := "java/lang/String") [] [] (ctIsL1 l Z a0 hw hEL z0 S0 hz0 s _ _ F1993) F1990 (w 58 rfl) (w 59 rfl) (w 61 rfl) (w 60 rfl) (w 10 rfl) (w 62 rfl) (by decide) (fun _ q => nomatch q) (by decide) 0 (by decide) (by decide) (by decide) (lenOf pd_14 rfl) rfl (leb rfl) (by rw [hml]; rfl) (D d11_1) ?_
    rintro T1996 h1997 _ X1999 K2000 rfl
    have F2001 := F1990.keep K2000
    have F2002 := F1992.keep K2000 nin0
    have F2003 := F1993.keep K2000 nin0
    have F2004 := F1995.keep K2000 nin0
    show Goes p.tables e below _ (T1996.setTop (mkF m 4 #[.val (.ref s), .val (.int (1 : Int32))] [(.int (0 : Int32))]))
    refine X1999.if_eq 16 (D d11_4) ⟨by decide, by decide⟩ (fun hc2005 => ?_) (fun hc2005 => absurd hc2005 (by decide))
    refine X1999.aloadN (x := (.ref s)) (D d11_16) rfl rfl ?_
    refine X1999.getf (w 28 rfl) Via.refl F2002 (D d11_17) ?_
    intro T2006 X2007
    refine X2007.iloadN (x := (1 : Int32)) (D d11_20) rfl ?_
    refine X2007.calls [(.ref t), (.int (1 : Int32))] [] (ctUA3_1 l Z a0 hw hEL z0 S0 hz0 SA1 SH SL fm hfm SF t _ c0 c1 c2 _ _ F2004 r1) (w 104 rfl) (w 105 rfl) (w 42 rfl) (w 106 rfl) (by decide) (fun _ q => nomatch q) (by decide) 0 (by decide) (by decide) (by decide) (lenOf pd_7 rfl) rfl (leb rfl) (by rw [hml]; rfl) (D d11_21) ?_
    rintro T2008 h2009 _ X2011 K2012 rfl
    have F2013 := F2001.keep K2012
    have F2014 := F2002.keep K2012 nin0
    have F2015 := F2003.keep K2012 nin0
    have F2016 := F2004.keep K2012 nin0
    show Goes p.tables e below _ (T2008.setTop (mkF m 24 #[.val (.ref s), .val (.int (1 : Int32))] [(.int c1)]))
    exact X2011.reti hret (by simp) hlk (D d11_24) (by decide) (by decide) (congrArg (fun z => some (Value.int z)) (nar_id r1))
set_option maxRecDepth 65536 in
set_option maxHeartbeats 40000000 in
theorem ctUC3_2 (l : Launch) (Z : State) (a0 : Array Value) (hw : ∀ d ∈ tables_1, d.before a0 Z = true) (hEL : EW Z a0 consts_1) (z0 : Int32) (S0 : Sta Z Z.heap "java/lang/String" "COMPACT_STRINGS" "Z" (.int z0)) (hz0 : ¬ z0 = 0) (fm : Value) (hfm : fm.isRef = true) (SF : Sta Z Z.heap "jdk/internal/util/Preconditions" "SIOOBE_FORMATTER" "Ljava/util/function/BiFunction;" fm) (r : Addr) (kr : ClassId) (vs : List Value) (dv : Value) (h0 : Heap) (n0 : Nat) (A0 : Arv Z h0 r kr .byte (6 : Int32) vs dv) :
    Ct l Z consts_1 [] (⟨"java/lang/StringUTF16", "checkIndex", "(I[B)V"⟩ : MethodName) jdk_52_method_91_code 2 none ({ frames := 2, cells := 0, slots := 0, locals := 27 } : Room) #[(.int (2 : Int32)), (.ref r)] h0 n0 [] (fun v _ => v = none) := by
  have w : ∀ {d : Jvm.Cond} (i : Nat), tables_1[i]? = some d → d.before a0 Z = true := fun i q => hw _ (List.mem_of_getElem? q)
  refine Ct.enter (plainFor_of_name pn_2) hEL ?_
  intro p e sS m below meth c T0 hby hml0 hret hlk hnm hs0 X0
  have hml : c.maxLocals = 2 := hml0
  have D : ∀ {pc : Nat} {r : Except DecodeError (Instr × Nat)}, decode jdk_52_method_91_code pc = r → decode c.code pc = r := fun q => hb hby q
  rw [show entryFrame m #[(.int (2 : Int32)), (.ref r)] 2 = mkF m 0 #[.val (.int (2 : Int32)), .val (.ref r)] [] from by first | (simp [entryFrame, mkF, argsToLocals, Value.category]; done) | rfl]
  refine X0.iloadN (x := (2 : Int32)) (D d24_0) rfl ?_
  refine X0.aloadN (x := (.ref r)) (D d24_1) rfl rfl ?_
  refine X0.calls [(.ref r)] [(.int (2 : Int32))] (ctUL3 l Z a0 hw hEL z0 S0 hz0 r kr _ _ _ _ A0) (w 110 rfl) (w 111 rfl) (w 42 rfl) (w 112 rfl) (by decide) (fun _ q => nomatch q) (by decide) 1 (by decide) (by decide) (by decide) (lenOf pd_11 rfl) rfl (leb rfl) (by rw [hml]; rfl) (D d24_2) ?_
  rintro T2017 h2018 _ X2020 K2021 rfl
  have F2022 := A0.keep K2021 nin0
  show Goes p.tables e below _ (T2017.setTop (mkF m 5 #[.val (.int (2 : Int32)), .val (.ref r)] [(.int (3 : Int32)), (.int (2 : Int32))]))
  refine X2020.calls [(.int (2 : Int32)), (.int (3 : Int32))] [] (ctSci l Z a0 hw hEL z0 S0 hz0 fm hfm SF (2 : Int32) (3 : Int32) _ _ (by decide) (by decide)) (w 113 rfl) (w 68 rfl) (w 10 rfl) (w 69 rfl) (by decide) (fun _ q => nomatch q) (by decide) 0 (by decide) (by decide) (by decide) (lenOf pd_12 rfl) rfl (leb rfl) (by rw [hml]; rfl) (D d24_5) ?_
  rintro T2023 h2024 _ X2026 K2027 rfl
  have F2028 := F2022.keep K2027 nin0
  show Goes p.tables e below _ (T2023.setTop (mkF m 8 #[.val (.int (2 : Int32)), .val (.ref r)] []))
  exact X2026.retn hret hlk (D d24_8) (by decide) (by decide) (rfl)
set_option maxRecDepth 65536 in
set_option maxHeartbeats 40000000 in
theorem ctUA3_2 (l : Launch) (Z : State) (a0 : Array Value) (hw : ∀ d ∈ tables_1, d.before a0 Z = true) (hEL : EW Z a0 consts_1) (z0 : Int32) (S0 : Sta Z Z.heap "java/lang/String" "COMPACT_STRINGS" "Z" (.int z0)) (hz0 : ¬ z0 = 0) (SA1 : Sta Z Z.heap "java/lang/StringUTF16" "$assertionsDisabled" "Z" (.int (1 : Int32))) (SH : Sta Z Z.heap "java/lang/StringUTF16" "HI_BYTE_SHIFT" "I" (.int (0 : Int32))) (SL : Sta Z Z.heap "java/lang/StringUTF16" "LO_BYTE_SHIFT" "I" (.int (8 : Int32))) (fm : Value) (hfm : fm.isRef = true) (SF : Sta Z Z.heap "jdk/internal/util/Preconditions" "SIOOBE_FORMATTER" "Ljava/util/function/BiFunction;" fm) (r : Addr) (kr : ClassId) (c0 c1 c2 : Int32) (h0 : Heap) (n0 : Nat) (A0 : Arv Z h0 r kr .byte (6 : Int32) [(.int (StrChars.lo8 c0)), (.int (StrChars.hi8 c0)), (.int (StrChars.lo8 c1)), (.int (StrChars.hi8 c1)), (.int (StrChars.lo8 c2)), (.int (StrChars.hi8 c2))] (.int (0 : Int32))) (r2 : Rc c2) :
    Ct l Z consts_1 [] (⟨"java/lang/StringUTF16", "charAt", "([BI)C"⟩ : MethodName) jdk_52_method_83_code 2 (some .char) ({ frames := 3, cells := 0, slots := 0, locals := 40 } : Room) #[(.ref r), (.int (2 : Int32))] h0 n0 [] (fun v _ => v = some (.int c2)) := by
  have w : ∀ {d : Jvm.Cond} (i : Nat), tables_1[i]? = some d → d.before a0 Z = true := fun i q => hw _ (List.mem_of_getElem? q)
  refine Ct.enter (plainFor_of_name pn_2) hEL ?_
  intro p e sS m below meth c T0 hby hml0 hret hlk hnm hs0 X0
  have hml : c.maxLocals = 2 := hml0
  have D : ∀ {pc : Nat} {r : Except DecodeError (Instr × Nat)}, decode jdk_52_method_83_code pc = r → decode c.code pc = r := fun q => hb hby q
  rw [show entryFrame m #[(.ref r), (.int (2 : Int32))] 2 = mkF m 0 #[.val (.ref r), .val (.int (2 : Int32))] [] from by first | (simp [entryFrame, mkF, argsToLocals, Value.category]; done) | rfl]
  refine X0.iloadN (x := (2 : Int32)) (D d23_0) rfl ?_
  refine X0.aloadN (x := (.ref r)) (D d23_1) rfl rfl ?_
  refine X0.calls [(.int (2 : Int32)), (.ref r)] [] (ctUC3_2 l Z a0 hw hEL z0 S0 hz0 fm hfm SF r kr _ _ _ _ A0) (w 107 rfl) (w 108 rfl) (w 42 rfl) (w 109 rfl) (by decide) (fun _ q => nomatch q) (by decide) 0 (by decide) (by decide) (by decide) (lenOf pd_13 rfl) rfl (leb rfl) (by rw [hml]; rfl) (D d23_2) ?_
  rintro T2029 h2030 _ X2032 K2033 rfl
  have F2034 := A0.keep K2033 nin0
  show Goes p.tables e below _ (T2029.setTop (mkF m 5 #[.val (.ref r), .val (.int (2 : Int32))] []))
  refine X2032.aloadN (x := (.ref r)) (D d23_5) rfl rfl ?_
  refine X2032.iloadN (x := (2 : Int32)) (D d23_6) rfl ?_
  refine X2032.calls [(.ref r), (.int (2 : Int32))] [] (ctGC3_2 l Z a0 hw hEL z0 S0 hz0 SA1 SH SL r kr c0 c1 c2 _ _ F2034 r2) (w 101 rfl) (w 102 rfl) (w 42 rfl) (w 103 rfl) (by decide) (fun _ q => nomatch q) (by decide) 0 (by decide) (by decide) (by decide) (lenOf pd_7 rfl) rfl (leb rfl) (by rw [hml]; rfl) (D d23_7) ?_
  rintro T2035 h2036 _ X2038 K2039 rfl
  have F2040 := F2034.keep K2039 nin0
  show Goes p.tables e below _ (T2035.setTop (mkF m 10 #[.val (.ref r), .val (.int (2 : Int32))] [(.int c2)]))
  exact X2038.reti hret (by simp) hlk (D d23_10) (by decide) (by decide) (congrArg (fun z => some (Value.int z)) (nar_id r2))
set_option maxRecDepth 65536 in
set_option maxHeartbeats 40000000 in
theorem ctLA3_2 (l : Launch) (Z : State) (a0 : Array Value) (hw : ∀ d ∈ tables_1, d.before a0 Z = true) (hEL : EW Z a0 consts_1) (z0 : Int32) (S0 : Sta Z Z.heap "java/lang/String" "COMPACT_STRINGS" "Z" (.int z0)) (hz0 : ¬ z0 = 0) (fm : Value) (hfm : fm.isRef = true) (SF : Sta Z Z.heap "jdk/internal/util/Preconditions" "SIOOBE_FORMATTER" "Ljava/util/function/BiFunction;" fm) (r : Addr) (kr : ClassId) (c0 c1 c2 : Int32) (h0 : Heap) (n0 : Nat) (A0 : Arv Z h0 r kr .byte (3 : Int32) [(.int (StrChars.lo8 c0)), (.int (StrChars.lo8 c1)), (.int (StrChars.lo8 c2))] (.int (0 : Int32))) (r2 : Rc c2) (h8 : ¬ (255 : Int32) < c2) :
    Ct l Z consts_1 [] (⟨"java/lang/StringLatin1", "charAt", "([BI)C"⟩ : MethodName) jdk_43_method_2_code 2 (some .char) ({ frames := 2, cells := 0, slots := 0, locals := 27 } : Room) #[(.ref r), (.int (2 : Int32))] h0 n0 [] (fun v _ => v = some (.int c2)) := by
  have w : ∀ {d : Jvm.Cond} (i : Nat), tables_1[i]? = some d → d.before a0 Z = true := fun i q => hw _ (List.mem_of_getElem? q)
  refine Ct.enter (plainFor_of_name pn_4) hEL ?_
  intro p e sS m below meth c T0 hby hml0 hret hlk hnm hs0 X0
  have hml : c.maxLocals = 2 := hml0
  have D : ∀ {pc : Nat} {r : Except DecodeError (Instr × Nat)}, decode jdk_43_method_2_code pc = r → decode c.code pc = r := fun q => hb hby q
  rw [show entryFrame m #[(.ref r), (.int (2 : Int32))] 2 = mkF m 0 #[.val (.ref r), .val (.int (2 : Int32))] [] from by first | (simp [entryFrame, mkF, argsToLocals, Value.category]; done) | rfl]
  refine X0.iloadN (x := (2 : Int32)) (D d13_0) rfl ?_
  refine X0.aloadN (x := (.ref r)) (D d13_1) rfl rfl ?_
  refine X0.alen A0 (D d13_2) ?_
  refine X0.calls [(.int (2 : Int32)), (.int (3 : Int32))] [] (ctSci l Z a0 hw hEL z0 S0 hz0 fm hfm SF (2 : Int32) (3 : Int32) _ _ (by decide) (by decide)) (w 67 rfl) (w 68 rfl) (w 10 rfl) (w 69 rfl) (by decide) (fun _ q => nomatch q) (by decide) 0 (by decide) (by decide) (by decide) (lenOf pd_12 rfl) rfl (leb rfl) (by rw [hml]; rfl) (D d13_3) ?_
  rintro T2041 h2042 _ X2044 K2045 rfl
  have F2046 := A0.keep K2045 nin0
  show Goes p.tables e below _ (T2041.setTop (mkF m 6 #[.val (.ref r), .val (.int (2 : Int32))] []))
  refine X2044.aloadN (x := (.ref r)) (D d13_6) rfl rfl ?_
  refine X2044.iloadN (x := (2 : Int32)) (D d13_7) rfl ?_
  show Goes p.tables e below _ (T2041.setTop (mkF m 8 #[.val (.ref r), .val (.int (2 : Int32))] [(.int (2 : Int32)), (.ref r)]))
  refine X2044.baload (v := (.int (StrChars.lo8 c2))) F2046 ⟨by decide, by decide⟩ rfl (D d13_8) ?_
  refine X2044.sipush (x := (255 : Int32)) (D d13_9) rfl ?_
  refine X2044.iand (D d13_12) ?_
  refine X2044.i2c (D d13_13) ?_
  exact X2044.reti hret (by simp) hlk (D d13_14) (by decide) (by decide) (ret_lo r2 h8)
set_option maxRecDepth 65536 in
set_option maxHeartbeats 40000000 in
theorem ctCA3_2 (l : Launch) (Z : State) (a0 : Array Value) (hw : ∀ d ∈ tables_1, d.before a0 Z = true) (hEL : EW Z a0 consts_1) (z0 : Int32) (S0 : Sta Z Z.heap "java/lang/String" "COMPACT_STRINGS" "Z" (.int z0)) (hz0 : ¬ z0 = 0) (SA1 : Sta Z Z.heap "java/lang/StringUTF16" "$assertionsDisabled" "Z" (.int (1 : Int32))) (SH : Sta Z Z.heap "java/lang/StringUTF16" "HI_BYTE_SHIFT" "I" (.int (0 : Int32))) (SL : Sta Z Z.heap "java/lang/StringUTF16" "LO_BYTE_SHIFT" "I" (.int (8 : Int32))) (fm : Value) (hfm : fm.isRef = true) (SF : Sta Z Z.heap "jdk/internal/util/Preconditions" "SIOOBE_FORMATTER" "Ljava/util/function/BiFunction;" fm) (s : Addr) (c0 c1 c2 : Int32) (h0 : Heap) (n0 : Nat) (WS : WStr Z h0 s [c0, c1, c2]) (r2 : Rc c2) :
    Ct l Z consts_1 [] (⟨"java/lang/String", "charAt", "(I)C"⟩ : MethodName) jdk_42_method_56_code 2 (some .char) ({ frames := 4, cells := 0, slots := 0, locals := 53 } : Room) #[(.ref s), (.int (2 : Int32))] h0 n0 [] (fun v _ => v = some (.int c2)) := by
  have w : ∀ {d : Jvm.Cond} (i : Nat), tables_1[i]? = some d → d.before a0 Z = true := fun i q => hw _ (List.mem_of_getElem? q)
  refine Ct.enter (plainFor_of_name pn_1) hEL ?_
  intro p e sS m below meth c T0 hby hml0 hret hlk hnm hs0 X0
  have hml : c.maxLocals = 2 := hml0
  have D : ∀ {pc : Nat} {r : Except DecodeError (Instr × Nat)}, decode jdk_42_method_56_code pc = r → decode c.code pc = r := fun q => hb hby q
  rw [show entryFrame m #[(.ref s), (.int (2 : Int32))] 2 = mkF m 0 #[.val (.ref s), .val (.int (2 : Int32))] [] from by first | (simp [entryFrame, mkF, argsToLocals, Value.category]; done) | rfl]
  show Goes p.tables e below _ (T0.setTop (mkF m 0 #[.val (.ref s), .val (.int (2 : Int32))] []))
  rcases WS with ⟨t, OU⟩ | ⟨t, OU⟩
  · show Goes p.tables e below _ (T0.setTop (mkF m 0 #[.val (.ref s), .val (.int (2 : Int32))] []))
    obtain ⟨F2047, hb8, -, kb2048, F2049, F2050, F2051⟩ := id OU
    have F2052 : Arv Z h0 t kb2048 .byte (3 : Int32) [(.int (StrChars.lo8 c0)), (.int (StrChars.lo8 c1)), (.int (StrChars.lo8 c2))] (.int (0 : Int32)) := F2051
    refine X0.aloadN (x := (.ref s)) (D d11_0) rfl rfl ?_
    refine X0.callv (y := (⟨"java/lang/String", "isLatin1", "()Z"⟩ : MethodName)) (a := s) (C := "java/lang/String") [] [] (ctIsL0 l Z a0 hw hEL z0 S0 hz0 s _ _ F2050) F2047 (w 58 rfl) (w 59 rfl) (w 61 rfl) (w 60 rfl) (w 10 rfl) (w 62 rfl) (by decide) (fun _ q => nomatch q) (by decide) 0 (by decide) (by decide) (by decide) (lenOf pd_14 rfl) rfl (leb rfl) (by rw [hml]; rfl) (D d11_1) ?_
    rintro T2053 h2054 _ X2056 K2057 rfl
    have F2058 := F2047.keep K2057
    have F2059 := F2049.keep K2057 nin0
    have F2060 := F2050.keep K2057 nin0
    have F2061 := F2052.keep K2057 nin0
    show Goes p.tables e below _ (T2053.setTop (mkF m 4 #[.val (.ref s), .val (.int (2 : Int32))] [(.int (1 : Int32))]))
    refine X2056.if_eq 16 (D d11_4) ⟨by decide, by decide⟩ (fun hc2062 => absurd hc2062 (by decide)) (fun hc2062 => ?_)
    refine X2056.aloadN (x := (.ref s)) (D d11_7) rfl rfl ?_
    refine X2056.getf (w 28 rfl) Via.refl F2059 (D d11_8) ?_
    intro T2063 X2064
    refine X2064.iloadN (x := (2 : Int32)) (D d11_11) rfl ?_
    refine X2064.calls [(.ref t), (.int (2 : Int32))] [] (ctLA3_2 l Z a0 hw hEL z0 S0 hz0 fm hfm SF t _ c0 c1 c2 _ _ F2061 r2 (hb8 c2 (by simp)).2) (w 63 rfl) (w 64 rfl) (w 65 rfl) (w 66 rfl) (by decide) (fun _ q => nomatch q) (by decide) 0 (by decide) (by decide) (by decide) (lenOf pd_7 rfl) rfl (leb rfl) (by rw [hml]; rfl) (D d11_12) ?_
    rintro T2065 h2066 _ X2068 K2069 rfl
    have F2070 := F2058.keep K2069
    have F2071 := F2059.keep K2069 nin0
    have F2072 := F2060.keep K2069 nin0
    have F2073 := F2061.keep K2069 nin0
    show Goes p.tables e below _ (T2065.setTop (mkF m 15 #[.val (.ref s), .val (.int (2 : Int32))] [(.int c2)]))
    exact X2068.reti hret (by simp) hlk (D d11_15) (by decide) (by decide) (congrArg (fun z => some (Value.int z)) (nar_id r2))
  · show Goes p.tables e below _ (T0.setTop (mkF m 0 #[.val (.ref s), .val (.int (2 : Int32))] []))
    obtain ⟨F2074, kb2075, F2076, F2077, F2078⟩ := id OU
    have F2079 : Arv Z h0 t kb2075 .byte (6 : Int32) [(.int (StrChars.lo8 c0)), (.int (StrChars.hi8 c0)), (.int (StrChars.lo8 c1)), (.int (StrChars.hi8 c1)), (.int (StrChars.lo8 c2)), (.int (StrChars.hi8 c2))] (.int (0 : Int32)) := F2078
    refine X0.aloadN (x := (.ref s)) (D d11_0) rfl rfl ?_
    refine X0.callv (y := (⟨"java/lang/String", "isLatin1", "()Z"⟩ : MethodName)) (a := s) (C := "java/lang/String") [] [] (ctIsL1 l Z a0 hw hEL z0 S0 hz0 s _ _ F2077) F2074 (w 58 rfl) (w 59 rfl) (w 61 rfl) (w 60 rfl) (w 10 rfl) (w 62 rfl) (by decide) (fun _ q => nomatch q) (by decide) 0 (by decide) (by decide) (by decide) (lenOf pd_14 rfl) rfl (leb rfl) (by rw [hml]; rfl) (D d11_1) ?_
    rintro T2080 h2081 _ X2083 K2084 rfl
    have F2085 := F2074.keep K2084
    have F2086 := F2076.keep K2084 nin0
    have F2087 := F2077.keep K2084 nin0
    have F2088 := F2079.keep K2084 nin0
    show Goes p.tables e below _ (T2080.setTop (mkF m 4 #[.val (.ref s), .val (.int (2 : Int32))] [(.int (0 : Int32))]))
    refine X2083.if_eq 16 (D d11_4) ⟨by decide, by decide⟩ (fun hc2089 => ?_) (fun hc2089 => absurd hc2089 (by decide))
    refine X2083.aloadN (x := (.ref s)) (D d11_16) rfl rfl ?_
    refine X2083.getf (w 28 rfl) Via.refl F2086 (D d11_17) ?_
    intro T2090 X2091
    refine X2091.iloadN (x := (2 : Int32)) (D d11_20) rfl ?_
    refine X2091.calls [(.ref t), (.int (2 : Int32))] [] (ctUA3_2 l Z a0 hw hEL z0 S0 hz0 SA1 SH SL fm hfm SF t _ c0 c1 c2 _ _ F2088 r2) (w 104 rfl) (w 105 rfl) (w 42 rfl) (w 106 rfl) (by decide) (fun _ q => nomatch q) (by decide) 0 (by decide) (by decide) (by decide) (lenOf pd_7 rfl) rfl (leb rfl) (by rw [hml]; rfl) (D d11_21) ?_
    rintro T2092 h2093 _ X2095 K2096 rfl
    have F2097 := F2085.keep K2096
    have F2098 := F2086.keep K2096 nin0
    have F2099 := F2087.keep K2096 nin0
    have F2100 := F2088.keep K2096 nin0
    show Goes p.tables e below _ (T2092.setTop (mkF m 24 #[.val (.ref s), .val (.int (2 : Int32))] [(.int c2)]))
    exact X2095.reti hret (by simp) hlk (D d11_24) (by decide) (by decide) (congrArg (fun z => some (Value.int z)) (nar_id r2))
set_option maxRecDepth 65536 in
set_option maxHeartbeats 40000000 in
theorem ctEm4 (l : Launch) (Z : State) (a0 : Array Value) (hw : ∀ d ∈ tables_1, d.before a0 Z = true) (hEL : EW Z a0 consts_1) (z0 : Int32) (S0 : Sta Z Z.heap "java/lang/String" "COMPACT_STRINGS" "Z" (.int z0)) (hz0 : ¬ z0 = 0) (s : Addr) (c0 c1 c2 c3 : Int32) (h0 : Heap) (n0 : Nat) (WS : WStr Z h0 s [c0, c1, c2, c3]) :
    Ct l Z consts_1 [] (⟨"java/lang/String", "isEmpty", "()Z"⟩ : MethodName) jdk_42_method_55_code 1 (some .boolean) ({ frames := 0, cells := 0, slots := 0, locals := 0 } : Room) #[(.ref s)] h0 n0 [] (fun v _ => v = some (.int (0 : Int32))) := by
  have w : ∀ {d : Jvm.Cond} (i : Nat), tables_1[i]? = some d → d.before a0 Z = true := fun i q => hw _ (List.mem_of_getElem? q)
  refine Ct.enter (plainFor_of_name pn_1) hEL ?_
  intro p e sS m below meth c T0 hby hml0 hret hlk hnm hs0 X0
  have hml : c.maxLocals = 1 := hml0
  have D : ∀ {pc : Nat} {r : Except DecodeError (Instr × Nat)}, decode jdk_42_method_55_code pc = r → decode c.code pc = r := fun q => hb hby q
  rw [show entryFrame m #[(.ref s)] 1 = mkF m 0 #[.val (.ref s)] [] from by first | (simp [entryFrame, mkF, argsToLocals, Value.category]; done) | rfl]
  show Goes p.tables e below _ (T0.setTop (mkF m 0 #[.val (.ref s)] []))
  rcases WS with ⟨t, OU⟩ | ⟨t, OU⟩
  · show Goes p.tables e below _ (T0.setTop (mkF m 0 #[.val (.ref s)] []))
    obtain ⟨F2101, hb8, -, kb2102, F2103, F2104, F2105⟩ := id OU
    have F2106 : Arv Z h0 t kb2102 .byte (4 : Int32) [(.int (StrChars.lo8 c0)), (.int (StrChars.lo8 c1)), (.int (StrChars.lo8 c2)), (.int (StrChars.lo8 c3))] (.int (0 : Int32)) := F2105
    refine X0.aloadN (x := (.ref s)) (D d6_0) rfl rfl ?_
    refine X0.getf (w 28 rfl) Via.refl F2103 (D d6_1) ?_
    intro T2107 X2108
    refine X2108.alen F2106 (D d6_4) ?_
    refine X2108.if_ne 12 (D d6_5) ⟨by decide, by decide⟩ (fun hc2109 => ?_) (fun hc2109 => absurd hc2109 (by decide))
    refine X2108.iconst (x := (0 : Int32)) (D d6_12) rfl ?_
    exact X2108.reti hret (by simp) hlk (D d6_13) (by decide) (by decide) (rfl)
  · show Goes p.tables e below _ (T0.setTop (mkF m 0 #[.val (.ref s)] []))
    obtain ⟨F2110, kb2111, F2112, F2113, F2114⟩ := id OU
    have F2115 : Arv Z h0 t kb2111 .byte (8 : Int32) [(.int (StrChars.lo8 c0)), (.int (StrChars.hi8 c0)), (.int (StrChars.lo8 c1)), (.int (StrChars.hi8 c1)), (.int (StrChars.lo8 c2)), (.int (StrChars.hi8 c2)), (.int (StrChars.lo8 c3)), (.int (StrChars.hi8 c3))] (.int (0 : Int32)) := F2114
    refine X0.aloadN (x := (.ref s)) (D d6_0) rfl rfl ?_
    refine X0.getf (w 28 rfl) Via.refl F2112 (D d6_1) ?_
    intro T2116 X2117
    refine X2117.alen F2115 (D d6_4) ?_
    refine X2117.if_ne 12 (D d6_5) ⟨by decide, by decide⟩ (fun hc2118 => ?_) (fun hc2118 => absurd hc2118 (by decide))
    refine X2117.iconst (x := (0 : Int32)) (D d6_12) rfl ?_
    exact X2117.reti hret (by simp) hlk (D d6_13) (by decide) (by decide) (rfl)
set_option maxRecDepth 65536 in
set_option maxHeartbeats 40000000 in
theorem ctLn4 (l : Launch) (Z : State) (a0 : Array Value) (hw : ∀ d ∈ tables_1, d.before a0 Z = true) (hEL : EW Z a0 consts_1) (z0 : Int32) (S0 : Sta Z Z.heap "java/lang/String" "COMPACT_STRINGS" "Z" (.int z0)) (hz0 : ¬ z0 = 0) (s : Addr) (c0 c1 c2 c3 : Int32) (h0 : Heap) (n0 : Nat) (WS : WStr Z h0 s [c0, c1, c2, c3]) :
    Ct l Z consts_1 [] (⟨"java/lang/String", "length", "()I"⟩ : MethodName) jdk_42_method_54_code 1 (some .int) ({ frames := 1, cells := 0, slots := 0, locals := 13 } : Room) #[(.ref s)] h0 n0 [] (fun v _ => v = some (.int (4 : Int32))) := by
  have w : ∀ {d : Jvm.Cond} (i : Nat), tables_1[i]? = some d → d.before a0 Z = true := fun i q => hw _ (List.mem_of_getElem? q)
  refine Ct.enter (plainFor_of_name pn_1) hEL ?_
  intro p e sS m below meth c T0 hby hml0 hret hlk hnm hs0 X0
  have hml : c.maxLocals = 1 := hml0
  have D : ∀ {pc : Nat} {r : Except DecodeError (Instr × Nat)}, decode jdk_42_method_54_code pc = r → decode c.code pc = r := fun q => hb hby q
  rw [show entryFrame m #[(.ref s)] 1 = mkF m 0 #[.val (.ref s)] [] from by first | (simp [entryFrame, mkF, argsToLocals, Value.category]; done) | rfl]
  show Goes p.tables e below _ (T0.setTop (mkF m 0 #[.val (.ref s)] []))
  rcases WS with ⟨t, OU⟩ | ⟨t, OU⟩
  · show Goes p.tables e below _ (T0.setTop (mkF m 0 #[.val (.ref s)] []))
    obtain ⟨F2119, hb8, -, kb2120, F2121, F2122, F2123⟩ := id OU
    have F2124 : Arv Z h0 t kb2120 .byte (4 : Int32) [(.int (StrChars.lo8 c0)), (.int (StrChars.lo8 c1)), (.int (StrChars.lo8 c2)), (.int (StrChars.lo8 c3))] (.int (0 : Int32)) := F2123
    refine X0.aloadN (x := (.ref s)) (D d16_0) rfl rfl ?_
    refine X0.getf (w 28 rfl) Via.refl F2121 (D d16_1) ?_
    intro T2125 X2126
    refine X2126.alen F2124 (D d16_4) ?_
    refine X2126.aloadN (x := (.ref s)) (D d16_5) rfl rfl ?_
    refine X2126.callv (y := (⟨"java/lang/String", "coder", "()B"⟩ : MethodName)) (a := s) (C := "java/lang/String") [] [(.int (4 : Int32))] (ctCdr0 l Z a0 hw hEL z0 S0 hz0 s _ _ F2122) F2119 (w 80 rfl) (w 81 rfl) (w 83 rfl) (w 82 rfl) (w 10 rfl) (w 84 rfl) (by decide) (fun _ q => nomatch q) (by decide) 1 (by decide) (by decide) (by decide) (lenOf pd_10 rfl) rfl (leb rfl) (by rw [hml]; rfl) (D d16_6) ?_
    rintro T2127 h2128 _ X2130 K2131 rfl
    have F2132 := F2119.keep K2131
    have F2133 := F2121.keep K2131 nin0
    have F2134 := F2122.keep K2131 nin0
    have F2135 := F2124.keep K2131 nin0
    show Goes p.tables e below _ (T2127.setTop (mkF m 9 #[.val (.ref s)] [(.int (0 : Int32)), (.int (4 : Int32))]))
    refine X2130.ishr (D d16_9) ?_
    show Goes p.tables e below _ (T2127.setTop (mkF m 10 #[.val (.ref s)] [(.int (4 : Int32))]))
    exact X2130.retI hret hlk (D d16_10) (by decide) (by decide) (rfl)
  · show Goes p.tables e below _ (T0.setTop (mkF m 0 #[.val (.ref s)] []))
    obtain ⟨F2136, kb2137, F2138, F2139, F2140⟩ := id OU
    have F2141 : Arv Z h0 t kb2137 .byte (8 : Int32) [(.int (StrChars.lo8 c0)), (.int (StrChars.hi8 c0)), (.int (StrChars.lo8 c1)), (.int (StrChars.hi8 c1)), (.int (StrChars.lo8 c2)), (.int (StrChars.hi8 c2)), (.int (StrChars.lo8 c3)), (.int (StrChars.hi8 c3))] (.int (0 : Int32)) := F2140
    refine X0.aloadN (x := (.ref s)) (D d16_0) rfl rfl ?_
    refine X0.getf (w 28 rfl) Via.refl F2138 (D d16_1) ?_
    intro T2142 X2143
    refine X2143.alen F2141 (D d16_4) ?_
    refine X2143.aloadN (x := (.ref s)) (D d16_5) rfl rfl ?_
    refine X2143.callv (y := (⟨"java/lang/String", "coder", "()B"⟩ : MethodName)) (a := s) (C := "java/lang/String") [] [(.int (8 : Int32))] (ctCdr1 l Z a0 hw hEL z0 S0 hz0 s _ _ F2139) F2136 (w 80 rfl) (w 81 rfl) (w 83 rfl) (w 82 rfl) (w 10 rfl) (w 84 rfl) (by decide) (fun _ q => nomatch q) (by decide) 1 (by decide) (by decide) (by decide) (lenOf pd_10 rfl) rfl (leb rfl) (by rw [hml]; rfl) (D d16_6) ?_
    rintro T2144 h2145 _ X2147 K2148 rfl
    have F2149 := F2136.keep K2148
    have F2150 := F2138.keep K2148 nin0
    have F2151 := F2139.keep K2148 nin0
    have F2152 := F2141.keep K2148 nin0
    show Goes p.tables e below _ (T2144.setTop (mkF m 9 #[.val (.ref s)] [(.int (1 : Int32)), (.int (8 : Int32))]))
    refine X2147.ishr (D d16_9) ?_
    show Goes p.tables e below _ (T2144.setTop (mkF m 10 #[.val (.ref s)] [(.int (4 : Int32))]))
    exact X2147.retI hret hlk (D d16_10) (by decide) (by decide) (rfl)
set_option maxRecDepth 65536 in
set_option maxHeartbeats 40000000 in
theorem ctUL4 (l : Launch) (Z : State) (a0 : Array Value) (hw : ∀ d ∈ tables_1, d.before a0 Z = true) (hEL : EW Z a0 consts_1) (z0 : Int32) (S0 : Sta Z Z.heap "java/lang/String" "COMPACT_STRINGS" "Z" (.int z0)) (hz0 : ¬ z0 = 0) (r : Addr) (kr : ClassId) (vs : List Value) (dv : Value) (h0 : Heap) (n0 : Nat) (A0 : Arv Z h0 r kr .byte (8 : Int32) vs dv) :
    Ct l Z consts_1 [] (⟨"java/lang/StringUTF16", "length", "([B)I"⟩ : MethodName) jdk_52_method_6_code 1 (some .int) ({ frames := 0, cells := 0, slots := 0, locals := 0 } : Room) #[(.ref r)] h0 n0 [] (fun v _ => v = some (.int (4 : Int32))) := by
  have w : ∀ {d : Jvm.Cond} (i : Nat), tables_1[i]? = some d → d.before a0 Z = true := fun i q => hw _ (List.mem_of_getElem? q)
  refine Ct.enter (plainFor_of_name pn_2) hEL ?_
  intro p e sS m below meth c T0 hby hml0 hret hlk hnm hs0 X0
  have hml : c.maxLocals = 1 := hml0
  have D : ∀ {pc : Nat} {r : Except DecodeError (Instr × Nat)}, decode jdk_52_method_6_code pc = r → decode c.code pc = r := fun q => hb hby q
  rw [show entryFrame m #[(.ref r)] 1 = mkF m 0 #[.val (.ref r)] [] from by first | (simp [entryFrame, mkF, argsToLocals, Value.category]; done) | rfl]
  refine X0.aloadN (x := (.ref r)) (D d25_0) rfl rfl ?_
  refine X0.alen A0 (D d25_1) ?_
  refine X0.iconst (x := (1 : Int32)) (D d25_2) rfl ?_
  refine X0.ishr (D d25_3) ?_
  show Goes p.tables e below _ (T0.setTop (mkF m 4 #[.val (.ref r)] [(.int (4 : Int32))]))
  exact X0.retI hret hlk (D d25_4) (by decide) (by decide) (rfl)
set_option maxRecDepth 65536 in
set_option maxHeartbeats 40000000 in
theorem ctUC4_0 (l : Launch) (Z : State) (a0 : Array Value) (hw : ∀ d ∈ tables_1, d.before a0 Z = true) (hEL : EW Z a0 consts_1) (z0 : Int32) (S0 : Sta Z Z.heap "java/lang/String" "COMPACT_STRINGS" "Z" (.int z0)) (hz0 : ¬ z0 = 0) (fm : Value) (hfm : fm.isRef = true) (SF : Sta Z Z.heap "jdk/internal/util/Preconditions" "SIOOBE_FORMATTER" "Ljava/util/function/BiFunction;" fm) (r : Addr) (kr : ClassId) (vs : List Value) (dv : Value) (h0 : Heap) (n0 : Nat) (A0 : Arv Z h0 r kr .byte (8 : Int32) vs dv) :
    Ct l Z consts_1 [] (⟨"java/lang/StringUTF16", "checkIndex", "(I[B)V"⟩ : MethodName) jdk_52_method_91_code 2 none ({ frames := 2, cells := 0, slots := 0, locals := 27 } : Room) #[(.int (0 : Int32)), (.ref r)] h0 n0 [] (fun v _ => v = none) := by
  have w : ∀ {d : Jvm.Cond} (i : Nat), tables_1[i]? = some d → d.before a0 Z = true := fun i q => hw _ (List.mem_of_getElem? q)
  refine Ct.enter (plainFor_of_name pn_2) hEL ?_
  intro p e sS m below meth c T0 hby hml0 hret hlk hnm hs0 X0
  have hml : c.maxLocals = 2 := hml0
  have D : ∀ {pc : Nat} {r : Except DecodeError (Instr × Nat)}, decode jdk_52_method_91_code pc = r → decode c.code pc = r := fun q => hb hby q
  rw [show entryFrame m #[(.int (0 : Int32)), (.ref r)] 2 = mkF m 0 #[.val (.int (0 : Int32)), .val (.ref r)] [] from by first | (simp [entryFrame, mkF, argsToLocals, Value.category]; done) | rfl]
  refine X0.iloadN (x := (0 : Int32)) (D d24_0) rfl ?_
  refine X0.aloadN (x := (.ref r)) (D d24_1) rfl rfl ?_
  refine X0.calls [(.ref r)] [(.int (0 : Int32))] (ctUL4 l Z a0 hw hEL z0 S0 hz0 r kr _ _ _ _ A0) (w 110 rfl) (w 111 rfl) (w 42 rfl) (w 112 rfl) (by decide) (fun _ q => nomatch q) (by decide) 1 (by decide) (by decide) (by decide) (lenOf pd_11 rfl) rfl (leb rfl) (by rw [hml]; rfl) (D d24_2) ?_
  rintro T2153 h2154 _ X2156 K2157 rfl
  have F2158 := A0.keep K2157 nin0
  show Goes p.tables e below _ (T2153.setTop (mkF m 5 #[.val (.int (0 : Int32)), .val (.ref r)] [(.int (4 : Int32)), (.int (0 : Int32))]))
  refine X2156.calls [(.int (0 : Int32)), (.int (4 : Int32))] [] (ctSci l Z a0 hw hEL z0 S0 hz0 fm hfm SF (0 : Int32) (4 : Int32) _ _ (by decide) (by decide)) (w 113 rfl) (w 68 rfl) (w 10 rfl) (w 69 rfl) (by decide) (fun _ q => nomatch q) (by decide) 0 (by decide) (by decide) (by decide) (lenOf pd_12 rfl) rfl (leb rfl) (by rw [hml]; rfl) (D d24_5) ?_
  rintro T2159 h2160 _ X2162 K2163 rfl
  have F2164 := F2158.keep K2163 nin0
  show Goes p.tables e below _ (T2159.setTop (mkF m 8 #[.val (.int (0 : Int32)), .val (.ref r)] []))
  exact X2162.retn hret hlk (D d24_8) (by decide) (by decide) (rfl)
set_option maxRecDepth 65536 in
set_option maxHeartbeats 40000000 in
theorem ctUA4_0 (l : Launch) (Z : State) (a0 : Array Value) (hw : ∀ d ∈ tables_1, d.before a0 Z = true) (hEL : EW Z a0 consts_1) (z0 : Int32) (S0 : Sta Z Z.heap "java/lang/String" "COMPACT_STRINGS" "Z" (.int z0)) (hz0 : ¬ z0 = 0) (SA1 : Sta Z Z.heap "java/lang/StringUTF16" "$assertionsDisabled" "Z" (.int (1 : Int32))) (SH : Sta Z Z.heap "java/lang/StringUTF16" "HI_BYTE_SHIFT" "I" (.int (0 : Int32))) (SL : Sta Z Z.heap "java/lang/StringUTF16" "LO_BYTE_SHIFT" "I" (.int (8 : Int32))) (fm : Value) (hfm : fm.isRef = true) (SF : Sta Z Z.heap "jdk/internal/util/Preconditions" "SIOOBE_FORMATTER" "Ljava/util/function/BiFunction;" fm) (r : Addr) (kr : ClassId) (c0 c1 c2 c3 : Int32) (h0 : Heap) (n0 : Nat) (A0 : Arv Z h0 r kr .byte (8 : Int32) [(.int (StrChars.lo8 c0)), (.int (StrChars.hi8 c0)), (.int (StrChars.lo8 c1)), (.int (StrChars.hi8 c1)), (.int (StrChars.lo8 c2)), (.int (StrChars.hi8 c2)), (.int (StrChars.lo8 c3)), (.int (StrChars.hi8 c3))] (.int (0 : Int32))) (r0 : Rc c0) :
    Ct l Z consts_1 [] (⟨"java/lang/StringUTF16", "charAt", "([BI)C"⟩ : MethodName) jdk_52_method_83_code 2 (some .char) ({ frames := 3, cells := 0, slots := 0, locals := 40 } : Room) #[(.ref r), (.int (0 : Int32))] h0 n0 [] (fun v _ => v = some (.int c0)) := by
  have w : ∀ {d : Jvm.Cond} (i : Nat), tables_1[i]? = some d → d.before a0 Z = true := fun i q => hw _ (List.mem_of_getElem? q)
  refine Ct.enter (plainFor_of_name pn_2) hEL ?_
  intro p e sS m below meth c T0 hby hml0 hret hlk hnm hs0 X0
  have hml : c.maxLocals = 2 := hml0
  have D : ∀ {pc : Nat} {r : Except DecodeError (Instr × Nat)}, decode jdk_52_method_83_code pc = r → decode c.code pc = r := fun q => hb hby q
  rw [show entryFrame m #[(.ref r), (.int (0 : Int32))] 2 = mkF m 0 #[.val (.ref r), .val (.int (0 : Int32))] [] from by first | (simp [entryFrame, mkF, argsToLocals, Value.category]; done) | rfl]
  refine X0.iloadN (x := (0 : Int32)) (D d23_0) rfl ?_
  refine X0.aloadN (x := (.ref r)) (D d23_1) rfl rfl ?_
  refine X0.calls [(.int (0 : Int32)), (.ref r)] [] (ctUC4_0 l Z a0 hw hEL z0 S0 hz0 fm hfm SF r kr _ _ _ _ A0) (w 107 rfl) (w 108 rfl) (w 42 rfl) (w 109 rfl) (by decide) (fun _ q => nomatch q) (by decide) 0 (by decide) (by decide) (by decide) (lenOf pd_13 rfl) rfl (leb rfl) (by rw [hml]; rfl) (D d23_2) ?_
  rintro T2165 h2166 _ X2168 K2169 rfl
  have F2170 := A0.keep K2169 nin0
  show Goes p.tables e below _ (T2165.setTop (mkF m 5 #[.val (.ref r), .val (.int (0 : Int32))] []))
  refine X2168.aloadN (x := (.ref r)) (D d23_5) rfl rfl ?_
  refine X2168.iloadN (x := (0 : Int32)) (D d23_6) rfl ?_
  refine X2168.calls [(.ref r), (.int (0 : Int32))] [] (ctGC4_0 l Z a0 hw hEL z0 S0 hz0 SA1 SH SL r kr c0 c1 c2 c3 _ _ F2170 r0) (w 101 rfl) (w 102 rfl) (w 42 rfl) (w 103 rfl) (by decide) (fun _ q => nomatch q) (by decide) 0 (by decide) (by decide) (by decide) (lenOf pd_7 rfl) rfl (leb rfl) (by rw [hml]; rfl) (D d23_7) ?_
  rintro T2171 h2172 _ X2174 K2175 rfl
  have F2176 := F2170.keep K2175 nin0
  show Goes p.tables e below _ (T2171.setTop (mkF m 10 #[.val (.ref r), .val (.int (0 : Int32))] [(.int c0)]))
  exact X2174.reti hret (by simp) hlk (D d23_10) (by decide) (by decide) (congrArg (fun z => some (Value.int z)) (nar_id r0))
set_option maxRecDepth 65536 in
set_option maxHeartbeats 40000000 in
theorem ctLA4_0 (l : Launch) (Z : State) (a0 : Array Value) (hw : ∀ d ∈ tables_1, d.before a0 Z = true) (hEL : EW Z a0 consts_1) (z0 : Int32) (S0 : Sta Z Z.heap "java/lang/String" "COMPACT_STRINGS" "Z" (.int z0)) (hz0 : ¬ z0 = 0) (fm : Value) (hfm : fm.isRef = true) (SF : Sta Z Z.heap "jdk/internal/util/Preconditions" "SIOOBE_FORMATTER" "Ljava/util/function/BiFunction;" fm) (r : Addr) (kr : ClassId) (c0 c1 c2 c3 : Int32) (h0 : Heap) (n0 : Nat) (A0 : Arv Z h0 r kr .byte (4 : Int32) [(.int (StrChars.lo8 c0)), (.int (StrChars.lo8 c1)), (.int (StrChars.lo8 c2)), (.int (StrChars.lo8 c3))] (.int (0 : Int32))) (r0 : Rc c0) (h8 : ¬ (255 : Int32) < c0) :
    Ct l Z consts_1 [] (⟨"java/lang/StringLatin1", "charAt", "([BI)C"⟩ : MethodName) jdk_43_method_2_code 2 (some .char) ({ frames := 2, cells := 0, slots := 0, locals := 27 } : Room) #[(.ref r), (.int (0 : Int32))] h0 n0 [] (fun v _ => v = some (.int c0)) := by
  have w : ∀ {d : Jvm.Cond} (i : Nat), tables_1[i]? = some d → d.before a0 Z = true := fun i q => hw _ (List.mem_of_getElem? q)
  refine Ct.enter (plainFor_of_name pn_4) hEL ?_
  intro p e sS m below meth c T0 hby hml0 hret hlk hnm hs0 X0
  have hml : c.maxLocals = 2 := hml0
  have D : ∀ {pc : Nat} {r : Except DecodeError (Instr × Nat)}, decode jdk_43_method_2_code pc = r → decode c.code pc = r := fun q => hb hby q
  rw [show entryFrame m #[(.ref r), (.int (0 : Int32))] 2 = mkF m 0 #[.val (.ref r), .val (.int (0 : Int32))] [] from by first | (simp [entryFrame, mkF, argsToLocals, Value.category]; done) | rfl]
  refine X0.iloadN (x := (0 : Int32)) (D d13_0) rfl ?_
  refine X0.aloadN (x := (.ref r)) (D d13_1) rfl rfl ?_
  refine X0.alen A0 (D d13_2) ?_
  refine X0.calls [(.int (0 : Int32)), (.int (4 : Int32))] [] (ctSci l Z a0 hw hEL z0 S0 hz0 fm hfm SF (0 : Int32) (4 : Int32) _ _ (by decide) (by decide)) (w 67 rfl) (w 68 rfl) (w 10 rfl) (w 69 rfl) (by decide) (fun _ q => nomatch q) (by decide) 0 (by decide) (by decide) (by decide) (lenOf pd_12 rfl) rfl (leb rfl) (by rw [hml]; rfl) (D d13_3) ?_
  rintro T2177 h2178 _ X2180 K2181 rfl
  have F2182 := A0.keep K2181 nin0
  show Goes p.tables e below _ (T2177.setTop (mkF m 6 #[.val (.ref r), .val (.int (0 : Int32))] []))
  refine X2180.aloadN (x := (.ref r)) (D d13_6) rfl rfl ?_
  refine X2180.iloadN (x := (0 : Int32)) (D d13_7) rfl ?_
  show Goes p.tables e below _ (T2177.setTop (mkF m 8 #[.val (.ref r), .val (.int (0 : Int32))] [(.int (0 : Int32)), (.ref r)]))
  refine X2180.baload (v := (.int (StrChars.lo8 c0))) F2182 ⟨by decide, by decide⟩ rfl (D d13_8) ?_
  refine X2180.sipush (x := (255 : Int32)) (D d13_9) rfl ?_
  refine X2180.iand (D d13_12) ?_
  refine X2180.i2c (D d13_13) ?_
  exact X2180.reti hret (by simp) hlk (D d13_14) (by decide) (by decide) (ret_lo r0 h8)
set_option maxRecDepth 65536 in
set_option maxHeartbeats 40000000 in
theorem ctCA4_0 (l : Launch) (Z : State) (a0 : Array Value) (hw : ∀ d ∈ tables_1, d.before a0 Z = true) (hEL : EW Z a0 consts_1) (z0 : Int32) (S0 : Sta Z Z.heap "java/lang/String" "COMPACT_STRINGS" "Z" (.int z0)) (hz0 : ¬ z0 = 0) (SA1 : Sta Z Z.heap "java/lang/StringUTF16" "$assertionsDisabled" "Z" (.int (1 : Int32))) (SH : Sta Z Z.heap "java/lang/StringUTF16" "HI_BYTE_SHIFT" "I" (.int (0 : Int32))) (SL : Sta Z Z.heap "java/lang/StringUTF16" "LO_BYTE_SHIFT" "I" (.int (8 : Int32))) (fm : Value) (hfm : fm.isRef = true) (SF : Sta Z Z.heap "jdk/internal/util/Preconditions" "SIOOBE_FORMATTER" "Ljava/util/function/BiFunction;" fm) (s : Addr) (c0 c1 c2 c3 : Int32) (h0 : Heap) (n0 : Nat) (WS : WStr Z h0 s [c0, c1, c2, c3]) (r0 : Rc c0) :
    Ct l Z consts_1 [] (⟨"java/lang/String", "charAt", "(I)C"⟩ : MethodName) jdk_42_method_56_code 2 (some .char) ({ frames := 4, cells := 0, slots := 0, locals := 53 } : Room) #[(.ref s), (.int (0 : Int32))] h0 n0 [] (fun v _ => v = some (.int c0)) := by
  have w : ∀ {d : Jvm.Cond} (i : Nat), tables_1[i]? = some d → d.before a0 Z = true := fun i q => hw _ (List.mem_of_getElem? q)
  refine Ct.enter (plainFor_of_name pn_1) hEL ?_
  intro p e sS m below meth c T0 hby hml0 hret hlk hnm hs0 X0
  have hml : c.maxLocals = 2 := hml0
  have D : ∀ {pc : Nat} {r : Except DecodeError (Instr × Nat)}, decode jdk_42_method_56_code pc = r → decode c.code pc = r := fun q => hb hby q
  rw [show entryFrame m #[(.ref s), (.int (0 : Int32))] 2 = mkF m 0 #[.val (.ref s), .val (.int (0 : Int32))] [] from by first | (simp [entryFrame, mkF, argsToLocals, Value.category]; done) | rfl]
  show Goes p.tables e below _ (T0.setTop (mkF m 0 #[.val (.ref s), .val (.int (0 : Int32))] []))
  rcases WS with ⟨t, OU⟩ | ⟨t, OU⟩
  · show Goes p.tables e below _ (T0.setTop (mkF m 0 #[.val (.ref s), .val (.int (0 : Int32))] []))
    obtain ⟨F2183, hb8, -, kb2184, F2185, F2186, F2187⟩ := id OU
    have F2188 : Arv Z h0 t kb2184 .byte (4 : Int32) [(.int (StrChars.lo8 c0)), (.int (StrChars.lo8 c1)), (.int (StrChars.lo8 c2)), (.int (StrChars.lo8 c3))] (.int (0 : Int32)) := F2187
    refine X0.aloadN (x := (.ref s)) (D d11_0) rfl rfl ?_
    refine X0.callv (y := (⟨"java/lang/String", "isLatin1", "()Z"⟩ : MethodName)) (a := s) (C := "java/lang/String") [] [] (ctIsL0 l Z a0 hw hEL z0 S0 hz0 s _ _ F2186) F2183 (w 58 rfl) (w 59 rfl) (w 61 rfl) (w 60 rfl) (w 10 rfl) (w 62 rfl) (by decide) (fun _ q => nomatch q) (by decide) 0 (by decide) (by decide) (by decide) (lenOf pd_14 rfl) rfl (leb rfl) (by rw [hml]; rfl) (D d11_1) ?_
    rintro T2189 h2190 _ X2192 K2193 rfl
    have F2194 := F2183.keep K2193
    have F2195 := F2185.keep K2193 nin0
    have F2196 := F2186.keep K2193 nin0
    have F2197 := F2188.keep K2193 nin0
    show Goes p.tables e below _ (T2189.setTop (mkF m 4 #[.val (.ref s), .val (.int (0 : Int32))] [(.int (1 : Int32))]))
    refine X2192.if_eq 16 (D d11_4) ⟨by decide, by decide⟩ (fun hc2198 => absurd hc2198 (by decide)) (fun hc2198 => ?_)
    refine X2192.aloadN (x := (.ref s)) (D d11_7) rfl rfl ?_
    refine X2192.getf (w 28 rfl) Via.refl F2195 (D d11_8) ?_
    intro T2199 X2200
    refine X2200.iloadN (x := (0 : Int32)) (D d11_11) rfl ?_
    refine X2200.calls [(.ref t), (.int (0 : Int32))] [] (ctLA4_0 l Z a0 hw hEL z0 S0 hz0 fm hfm SF t _ c0 c1 c2 c3 _ _ F2197 r0 (hb8 c0 (by simp)).2) (w 63 rfl) (w 64 rfl) (w 65 rfl) (w 66 rfl) (by decide) (fun _ q => nomatch q) (by decide) 0 (by decide) (by decide) (by decide) (lenOf pd_7 rfl) rfl (leb rfl) (by rw [hml]; rfl) (D d11_12) ?_
    rintro T2201 h2202 _ X2204 K2205 rfl
    have F2206 := F2194.keep K2205
    have F2207 := F2195.keep K2205 nin0
    have F2208 := F2196.keep K2205 nin0
    have F2209 := F2197.keep K2205 nin0
    show Goes p.tables e below _ (T2201.setTop (mkF m 15 #[.val (.ref s), .val (.int (0 : Int32))] [(.int c0)]))
    exact X2204.reti hret (by simp) hlk (D d11_15) (by decide) (by decide) (congrArg (fun z => some (Value.int z)) (nar_id r0))
  · show Goes p.tables e below _ (T0.setTop (mkF m 0 #[.val (.ref s), .val (.int (0 : Int32))] []))
    obtain ⟨F2210, kb2211, F2212, F2213, F2214⟩ := id OU
    have F2215 : Arv Z h0 t kb2211 .byte (8 : Int32) [(.int (StrChars.lo8 c0)), (.int (StrChars.hi8 c0)), (.int (StrChars.lo8 c1)), (.int (StrChars.hi8 c1)), (.int (StrChars.lo8 c2)), (.int (StrChars.hi8 c2)), (.int (StrChars.lo8 c3)), (.int (StrChars.hi8 c3))] (.int (0 : Int32)) := F2214
    refine X0.aloadN (x := (.ref s)) (D d11_0) rfl rfl ?_
    refine X0.callv (y := (⟨"java/lang/String", "isLatin1", "()Z"⟩ : MethodName)) (a := s) (C := "java/lang/String") [] [] (ctIsL1 l Z a0 hw hEL z0 S0 hz0 s _ _ F2213) F2210 (w 58 rfl) (w 59 rfl) (w 61 rfl) (w 60 rfl) (w 10 rfl) (w 62 rfl) (by decide) (fun _ q => nomatch q) (by decide) 0 (by decide) (by decide) (by decide) (lenOf pd_14 rfl) rfl (leb rfl) (by rw [hml]; rfl) (D d11_1) ?_
    rintro T2216 h2217 _ X2219 K2220 rfl
    have F2221 := F2210.keep K2220
    have F2222 := F2212.keep K2220 nin0
    have F2223 := F2213.keep K2220 nin0
    have F2224 := F2215.keep K2220 nin0
    show Goes p.tables e below _ (T2216.setTop (mkF m 4 #[.val (.ref s), .val (.int (0 : Int32))] [(.int (0 : Int32))]))
    refine X2219.if_eq 16 (D d11_4) ⟨by decide, by decide⟩ (fun hc2225 => ?_) (fun hc2225 => absurd hc2225 (by decide))
    refine X2219.aloadN (x := (.ref s)) (D d11_16) rfl rfl ?_
    refine X2219.getf (w 28 rfl) Via.refl F2222 (D d11_17) ?_
    intro T2226 X2227
    refine X2227.iloadN (x := (0 : Int32)) (D d11_20) rfl ?_
    refine X2227.calls [(.ref t), (.int (0 : Int32))] [] (ctUA4_0 l Z a0 hw hEL z0 S0 hz0 SA1 SH SL fm hfm SF t _ c0 c1 c2 c3 _ _ F2224 r0) (w 104 rfl) (w 105 rfl) (w 42 rfl) (w 106 rfl) (by decide) (fun _ q => nomatch q) (by decide) 0 (by decide) (by decide) (by decide) (lenOf pd_7 rfl) rfl (leb rfl) (by rw [hml]; rfl) (D d11_21) ?_
    rintro T2228 h2229 _ X2231 K2232 rfl
    have F2233 := F2221.keep K2232
    have F2234 := F2222.keep K2232 nin0
    have F2235 := F2223.keep K2232 nin0
    have F2236 := F2224.keep K2232 nin0
    show Goes p.tables e below _ (T2228.setTop (mkF m 24 #[.val (.ref s), .val (.int (0 : Int32))] [(.int c0)]))
    exact X2231.reti hret (by simp) hlk (D d11_24) (by decide) (by decide) (congrArg (fun z => some (Value.int z)) (nar_id r0))
set_option maxRecDepth 65536 in
set_option maxHeartbeats 40000000 in
theorem ctUC4_1 (l : Launch) (Z : State) (a0 : Array Value) (hw : ∀ d ∈ tables_1, d.before a0 Z = true) (hEL : EW Z a0 consts_1) (z0 : Int32) (S0 : Sta Z Z.heap "java/lang/String" "COMPACT_STRINGS" "Z" (.int z0)) (hz0 : ¬ z0 = 0) (fm : Value) (hfm : fm.isRef = true) (SF : Sta Z Z.heap "jdk/internal/util/Preconditions" "SIOOBE_FORMATTER" "Ljava/util/function/BiFunction;" fm) (r : Addr) (kr : ClassId) (vs : List Value) (dv : Value) (h0 : Heap) (n0 : Nat) (A0 : Arv Z h0 r kr .byte (8 : Int32) vs dv) :
    Ct l Z consts_1 [] (⟨"java/lang/StringUTF16", "checkIndex", "(I[B)V"⟩ : MethodName) jdk_52_method_91_code 2 none ({ frames := 2, cells := 0, slots := 0, locals := 27 } : Room) #[(.int (1 : Int32)), (.ref r)] h0 n0 [] (fun v _ => v = none) := by
  have w : ∀ {d : Jvm.Cond} (i : Nat), tables_1[i]? = some d → d.before a0 Z = true := fun i q => hw _ (List.mem_of_getElem? q)
  refine Ct.enter (plainFor_of_name pn_2) hEL ?_
  intro p e sS m below meth c T0 hby hml0 hret hlk hnm hs0 X0
  have hml : c.maxLocals = 2 := hml0
  have D : ∀ {pc : Nat} {r : Except DecodeError (Instr × Nat)}, decode jdk_52_method_91_code pc = r → decode c.code pc = r := fun q => hb hby q
  rw [show entryFrame m #[(.int (1 : Int32)), (.ref r)] 2 = mkF m 0 #[.val (.int (1 : Int32)), .val (.ref r)] [] from by first | (simp [entryFrame, mkF, argsToLocals, Value.category]; done) | rfl]
  refine X0.iloadN (x := (1 : Int32)) (D d24_0) rfl ?_
  refine X0.aloadN (x := (.ref r)) (D d24_1) rfl rfl ?_
  refine X0.calls [(.ref r)] [(.int (1 : Int32))] (ctUL4 l Z a0 hw hEL z0 S0 hz0 r kr _ _ _ _ A0) (w 110 rfl) (w 111 rfl) (w 42 rfl) (w 112 rfl) (by decide) (fun _ q => nomatch q) (by decide) 1 (by decide) (by decide) (by decide) (lenOf pd_11 rfl) rfl (leb rfl) (by rw [hml]; rfl) (D d24_2) ?_
  rintro T2237 h2238 _ X2240 K2241 rfl
  have F2242 := A0.keep K2241 nin0
  show Goes p.tables e below _ (T2237.setTop (mkF m 5 #[.val (.int (1 : Int32)), .val (.ref r)] [(.int (4 : Int32)), (.int (1 : Int32))]))
  refine X2240.calls [(.int (1 : Int32)), (.int (4 : Int32))] [] (ctSci l Z a0 hw hEL z0 S0 hz0 fm hfm SF (1 : Int32) (4 : Int32) _ _ (by decide) (by decide)) (w 113 rfl) (w 68 rfl) (w 10 rfl) (w 69 rfl) (by decide) (fun _ q => nomatch q) (by decide) 0 (by decide) (by decide) (by decide) (lenOf pd_12 rfl) rfl (leb rfl) (by rw [hml]; rfl) (D d24_5) ?_
  rintro T2243 h2244 _ X2246 K2247 rfl
  have F2248 := F2242.keep K2247 nin0
  show Goes p.tables e below _ (T2243.setTop (mkF m 8 #[.val (.int (1 : Int32)), .val (.ref r)] []))
  exact X2246.retn hret hlk (D d24_8) (by decide) (by decide) (rfl)
set_option maxRecDepth 65536 in
set_option maxHeartbeats 40000000 in
theorem ctUA4_1 (l : Launch) (Z : State) (a0 : Array Value) (hw : ∀ d ∈ tables_1, d.before a0 Z = true) (hEL : EW Z a0 consts_1) (z0 : Int32) (S0 : Sta Z Z.heap "java/lang/String" "COMPACT_STRINGS" "Z" (.int z0)) (hz0 : ¬ z0 = 0) (SA1 : Sta Z Z.heap "java/lang/StringUTF16" "$assertionsDisabled" "Z" (.int (1 : Int32))) (SH : Sta Z Z.heap "java/lang/StringUTF16" "HI_BYTE_SHIFT" "I" (.int (0 : Int32))) (SL : Sta Z Z.heap "java/lang/StringUTF16" "LO_BYTE_SHIFT" "I" (.int (8 : Int32))) (fm : Value) (hfm : fm.isRef = true) (SF : Sta Z Z.heap "jdk/internal/util/Preconditions" "SIOOBE_FORMATTER" "Ljava/util/function/BiFunction;" fm) (r : Addr) (kr : ClassId) (c0 c1 c2 c3 : Int32) (h0 : Heap) (n0 : Nat) (A0 : Arv Z h0 r kr .byte (8 : Int32) [(.int (StrChars.lo8 c0)), (.int (StrChars.hi8 c0)), (.int (StrChars.lo8 c1)), (.int (StrChars.hi8 c1)), (.int (StrChars.lo8 c2)), (.int (StrChars.hi8 c2)), (.int (StrChars.lo8 c3)), (.int (StrChars.hi8 c3))] (.int (0 : Int32))) (r1 : Rc c1) :
    Ct l Z consts_1 [] (⟨"java/lang/StringUTF16", "charAt", "([BI)C"⟩ : MethodName) jdk_52_method_83_code 2 (some .char) ({ frames := 3, cells := 0, slots := 0, locals := 40 } : Room) #[(.ref r), (.int (1 : Int32))] h0 n0 [] (fun v _ => v = some (.int c1)) := by
  have w : ∀ {d : Jvm.Cond} (i : Nat), tables_1[i]? = some d → d.before a0 Z = true := fun i q => hw _ (List.mem_of_getElem? q)
  refine Ct.enter (plainFor_of_name pn_2) hEL ?_
  intro p e sS m below meth c T0 hby hml0 hret hlk hnm hs0 X0
  have hml : c.maxLocals = 2 := hml0
  have D : ∀ {pc : Nat} {r : Except DecodeError (Instr × Nat)}, decode jdk_52_method_83_code pc = r → decode c.code pc = r := fun q => hb hby q
  rw [show entryFrame m #[(.ref r), (.int (1 : Int32))] 2 = mkF m 0 #[.val (.ref r), .val (.int (1 : Int32))] [] from by first | (simp [entryFrame, mkF, argsToLocals, Value.category]; done) | rfl]
  refine X0.iloadN (x := (1 : Int32)) (D d23_0) rfl ?_
  refine X0.aloadN (x := (.ref r)) (D d23_1) rfl rfl ?_
  refine X0.calls [(.int (1 : Int32)), (.ref r)] [] (ctUC4_1 l Z a0 hw hEL z0 S0 hz0 fm hfm SF r kr _ _ _ _ A0) (w 107 rfl) (w 108 rfl) (w 42 rfl) (w 109 rfl) (by decide) (fun _ q => nomatch q) (by decide) 0 (by decide) (by decide) (by decide) (lenOf pd_13 rfl) rfl (leb rfl) (by rw [hml]; rfl) (D d23_2) ?_
  rintro T2249 h2250 _ X2252 K2253 rfl
  have F2254 := A0.keep K2253 nin0
  show Goes p.tables e below _ (T2249.setTop (mkF m 5 #[.val (.ref r), .val (.int (1 : Int32))] []))
  refine X2252.aloadN (x := (.ref r)) (D d23_5) rfl rfl ?_
  refine X2252.iloadN (x := (1 : Int32)) (D d23_6) rfl ?_
  refine X2252.calls [(.ref r), (.int (1 : Int32))] [] (ctGC4_1 l Z a0 hw hEL z0 S0 hz0 SA1 SH SL r kr c0 c1 c2 c3 _ _ F2254 r1) (w 101 rfl) (w 102 rfl) (w 42 rfl) (w 103 rfl) (by decide) (fun _ q => nomatch q) (by decide) 0 (by decide) (by decide) (by decide) (lenOf pd_7 rfl) rfl (leb rfl) (by rw [hml]; rfl) (D d23_7) ?_
  rintro T2255 h2256 _ X2258 K2259 rfl
  have F2260 := F2254.keep K2259 nin0
  show Goes p.tables e below _ (T2255.setTop (mkF m 10 #[.val (.ref r), .val (.int (1 : Int32))] [(.int c1)]))
  exact X2258.reti hret (by simp) hlk (D d23_10) (by decide) (by decide) (congrArg (fun z => some (Value.int z)) (nar_id r1))
set_option maxRecDepth 65536 in
set_option maxHeartbeats 40000000 in
theorem ctLA4_1 (l : Launch) (Z : State) (a0 : Array Value) (hw : ∀ d ∈ tables_1, d.before a0 Z = true) (hEL : EW Z a0 consts_1) (z0 : Int32) (S0 : Sta Z Z.heap "java/lang/String" "COMPACT_STRINGS" "Z" (.int z0)) (hz0 : ¬ z0 = 0) (fm : Value) (hfm : fm.isRef = true) (SF : Sta Z Z.heap "jdk/internal/util/Preconditions" "SIOOBE_FORMATTER" "Ljava/util/function/BiFunction;" fm) (r : Addr) (kr : ClassId) (c0 c1 c2 c3 : Int32) (h0 : Heap) (n0 : Nat) (A0 : Arv Z h0 r kr .byte (4 : Int32) [(.int (StrChars.lo8 c0)), (.int (StrChars.lo8 c1)), (.int (StrChars.lo8 c2)), (.int (StrChars.lo8 c3))] (.int (0 : Int32))) (r1 : Rc c1) (h8 : ¬ (255 : Int32) < c1) :
    Ct l Z consts_1 [] (⟨"java/lang/StringLatin1", "charAt", "([BI)C"⟩ : MethodName) jdk_43_method_2_code 2 (some .char) ({ frames := 2, cells := 0, slots := 0, locals := 27 } : Room) #[(.ref r), (.int (1 : Int32))] h0 n0 [] (fun v _ => v = some (.int c1)) := by
  have w : ∀ {d : Jvm.Cond} (i : Nat), tables_1[i]? = some d → d.before a0 Z = true := fun i q => hw _ (List.mem_of_getElem? q)
  refine Ct.enter (plainFor_of_name pn_4) hEL ?_
  intro p e sS m below meth c T0 hby hml0 hret hlk hnm hs0 X0
  have hml : c.maxLocals = 2 := hml0
  have D : ∀ {pc : Nat} {r : Except DecodeError (Instr × Nat)}, decode jdk_43_method_2_code pc = r → decode c.code pc = r := fun q => hb hby q
  rw [show entryFrame m #[(.ref r), (.int (1 : Int32))] 2 = mkF m 0 #[.val (.ref r), .val (.int (1 : Int32))] [] from by first | (simp [entryFrame, mkF, argsToLocals, Value.category]; done) | rfl]
  refine X0.iloadN (x := (1 : Int32)) (D d13_0) rfl ?_
  refine X0.aloadN (x := (.ref r)) (D d13_1) rfl rfl ?_
  refine X0.alen A0 (D d13_2) ?_
  refine X0.calls [(.int (1 : Int32)), (.int (4 : Int32))] [] (ctSci l Z a0 hw hEL z0 S0 hz0 fm hfm SF (1 : Int32) (4 : Int32) _ _ (by decide) (by decide)) (w 67 rfl) (w 68 rfl) (w 10 rfl) (w 69 rfl) (by decide) (fun _ q => nomatch q) (by decide) 0 (by decide) (by decide) (by decide) (lenOf pd_12 rfl) rfl (leb rfl) (by rw [hml]; rfl) (D d13_3) ?_
  rintro T2261 h2262 _ X2264 K2265 rfl
  have F2266 := A0.keep K2265 nin0
  show Goes p.tables e below _ (T2261.setTop (mkF m 6 #[.val (.ref r), .val (.int (1 : Int32))] []))
  refine X2264.aloadN (x := (.ref r)) (D d13_6) rfl rfl ?_
  refine X2264.iloadN (x := (1 : Int32)) (D d13_7) rfl ?_
  show Goes p.tables e below _ (T2261.setTop (mkF m 8 #[.val (.ref r), .val (.int (1 : Int32))] [(.int (1 : Int32)), (.ref r)]))
  refine X2264.baload (v := (.int (StrChars.lo8 c1))) F2266 ⟨by decide, by decide⟩ rfl (D d13_8) ?_
  refine X2264.sipush (x := (255 : Int32)) (D d13_9) rfl ?_
  refine X2264.iand (D d13_12) ?_
  refine X2264.i2c (D d13_13) ?_
  exact X2264.reti hret (by simp) hlk (D d13_14) (by decide) (by decide) (ret_lo r1 h8)
set_option maxRecDepth 65536 in
set_option maxHeartbeats 40000000 in
theorem ctCA4_1 (l : Launch) (Z : State) (a0 : Array Value) (hw : ∀ d ∈ tables_1, d.before a0 Z = true) (hEL : EW Z a0 consts_1) (z0 : Int32) (S0 : Sta Z Z.heap "java/lang/String" "COMPACT_STRINGS" "Z" (.int z0)) (hz0 : ¬ z0 = 0) (SA1 : Sta Z Z.heap "java/lang/StringUTF16" "$assertionsDisabled" "Z" (.int (1 : Int32))) (SH : Sta Z Z.heap "java/lang/StringUTF16" "HI_BYTE_SHIFT" "I" (.int (0 : Int32))) (SL : Sta Z Z.heap "java/lang/StringUTF16" "LO_BYTE_SHIFT" "I" (.int (8 : Int32))) (fm : Value) (hfm : fm.isRef = true) (SF : Sta Z Z.heap "jdk/internal/util/Preconditions" "SIOOBE_FORMATTER" "Ljava/util/function/BiFunction;" fm) (s : Addr) (c0 c1 c2 c3 : Int32) (h0 : Heap) (n0 : Nat) (WS : WStr Z h0 s [c0, c1, c2, c3]) (r1 : Rc c1) :
    Ct l Z consts_1 [] (⟨"java/lang/String", "charAt", "(I)C"⟩ : MethodName) jdk_42_method_56_code 2 (some .char) ({ frames := 4, cells := 0, slots := 0, locals := 53 } : Room) #[(.ref s), (.int (1 : Int32))] h0 n0 [] (fun v _ => v = some (.int c1)) := by
  have w : ∀ {d : Jvm.Cond} (i : Nat), tables_1[i]? = some d → d.before a0 Z = true := fun i q => hw _ (List.mem_of_getElem? q)
  refine Ct.enter (plainFor_of_name pn_1) hEL ?_
  intro p e sS m below meth c T0 hby hml0 hret hlk hnm hs0 X0
  have hml : c.maxLocals = 2 := hml0
  have D : ∀ {pc : Nat} {r : Except DecodeError (Instr × Nat)}, decode jdk_42_method_56_code pc = r → decode c.code pc = r := fun q => hb hby q
  rw [show entryFrame m #[(.ref s), (.int (1 : Int32))] 2 = mkF m 0 #[.val (.ref s), .val (.int (1 : Int32))] [] from by first | (simp [entryFrame, mkF, argsToLocals, Value.category]; done) | rfl]
  show Goes p.tables e below _ (T0.setTop (mkF m 0 #[.val (.ref s), .val (.int (1 : Int32))] []))
  rcases WS with ⟨t, OU⟩ | ⟨t, OU⟩
  · show Goes p.tables e below _ (T0.setTop (mkF m 0 #[.val (.ref s), .val (.int (1 : Int32))] []))
    obtain ⟨F2267, hb8, -, kb2268, F2269, F2270, F2271⟩ := id OU
    have F2272 : Arv Z h0 t kb2268 .byte (4 : Int32) [(.int (StrChars.lo8 c0)), (.int (StrChars.lo8 c1)), (.int (StrChars.lo8 c2)), (.int (StrChars.lo8 c3))] (.int (0 : Int32)) := F2271
    refine X0.aloadN (x := (.ref s)) (D d11_0) rfl rfl ?_
    refine X0.callv (y := (⟨"java/lang/String", "isLatin1", "()Z"⟩ : MethodName)) (a := s) (C := "java/lang/String") [] [] (ctIsL0 l Z a0 hw hEL z0 S0 hz0 s _ _ F2270) F2267 (w 58 rfl) (w 59 rfl) (w 61 rfl) (w 60 rfl) (w 10 rfl) (w 62 rfl) (by decide) (fun _ q => nomatch q) (by decide) 0 (by decide) (by decide) (by decide) (lenOf pd_14 rfl) rfl (leb rfl) (by rw [hml]; rfl) (D d11_1) ?_
    rintro T2273 h2274 _ X2276 K2277 rfl
    have F2278 := F2267.keep K2277
    have F2279 := F2269.keep K2277 nin0
    have F2280 := F2270.keep K2277 nin0
    have F2281 := F2272.keep K2277 nin0
    show Goes p.tables e below _ (T2273.setTop (mkF m 4 #[.val (.ref s), .val (.int (1 : Int32))] [(.int (1 : Int32))]))
    refine X2276.if_eq 16 (D d11_4) ⟨by decide, by decide⟩ (fun hc2282 => absurd hc2282 (by decide)) (fun hc2282 => ?_)
    refine X2276.aloadN (x := (.ref s)) (D d11_7) rfl rfl ?_
    refine X2276.getf (w 28 rfl) Via.refl F2279 (D d11_8) ?_
    intro T2283 X2284
    refine X2284.iloadN (x := (1 : Int32)) (D d11_11) rfl ?_
    refine X2284.calls [(.ref t), (.int (1 : Int32))] [] (ctLA4_1 l Z a0 hw hEL z0 S0 hz0 fm hfm SF t _ c0 c1 c2 c3 _ _ F2281 r1 (hb8 c1 (by simp)).2) (w 63 rfl) (w 64 rfl) (w 65 rfl) (w 66 rfl) (by decide) (fun _ q => nomatch q) (by decide) 0 (by decide) (by decide) (by decide) (lenOf pd_7 rfl) rfl (leb rfl) (by rw [hml]; rfl) (D d11_12) ?_
    rintro T2285 h2286 _ X2288 K2289 rfl
    have F2290 := F2278.keep K2289
    have F2291 := F2279.keep K2289 nin0
    have F2292 := F2280.keep K2289 nin0
    have F2293 := F2281.keep K2289 nin0
    show Goes p.tables e below _ (T2285.setTop (mkF m 15 #[.val (.ref s), .val (.int (1 : Int32))] [(.int c1)]))
    exact X2288.reti hret (by simp) hlk (D d11_15) (by decide) (by decide) (congrArg (fun z => some (Value.int z)) (nar_id r1))
  · show Goes p.tables e below _ (T0.setTop (mkF m 0 #[.val (.ref s), .val (.int (1 : Int32))] []))
    obtain ⟨F2294, kb2295, F2296, F2297, F2298⟩ := id OU
    have F2299 : Arv Z h0 t kb2295 .byte (8 : Int32) [(.int (StrChars.lo8 c0)), (.int (StrChars.hi8 c0)), (.int (StrChars.lo8 c1)), (.int (StrChars.hi8 c1)), (.int (StrChars.lo8 c2)), (.int (StrChars.hi8 c2)), (.int (StrChars.lo8 c3)), (.int (StrChars.hi8 c3))] (.int (0 : Int32)) := F2298
    refine X0.aloadN (x := (.ref s)) (D d11_0) rfl rfl ?_
    refine X0.callv (y := (⟨"java/lang/String", "isLatin1", "()Z"⟩ : MethodName)) (a := s) (C := "java/lang/String") [] [] (ctIsL1 l Z a0 hw hEL z0 S0 hz0 s _ _ F2297) F2294 (w 58 rfl) (w 59 rfl) (w 61 rfl) (w 60 rfl) (w 10 rfl) (w 62 rfl) (by decide) (fun _ q => nomatch q) (by decide) 0 (by decide) (by decide) (by decide) (lenOf pd_14 rfl) rfl (leb rfl) (by rw [hml]; rfl) (D d11_1) ?_
    rintro T2300 h2301 _ X2303 K2304 rfl
    have F2305 := F2294.keep K2304
    have F2306 := F2296.keep K2304 nin0
    have F2307 := F2297.keep K2304 nin0
    have F2308 := F2299.keep K2304 nin0
    show Goes p.tables e below _ (T2300.setTop (mkF m 4 #[.val (.ref s), .val (.int (1 : Int32))] [(.int (0 : Int32))]))
    refine X2303.if_eq 16 (D d11_4) ⟨by decide, by decide⟩ (fun hc2309 => ?_) (fun hc2309 => absurd hc2309 (by decide))
    refine X2303.aloadN (x := (.ref s)) (D d11_16) rfl rfl ?_
    refine X2303.getf (w 28 rfl) Via.refl F2306 (D d11_17) ?_
    intro T2310 X2311
    refine X2311.iloadN (x := (1 : Int32)) (D d11_20) rfl ?_
    refine X2311.calls [(.ref t), (.int (1 : Int32))] [] (ctUA4_1 l Z a0 hw hEL z0 S0 hz0 SA1 SH SL fm hfm SF t _ c0 c1 c2 c3 _ _ F2308 r1) (w 104 rfl) (w 105 rfl) (w 42 rfl) (w 106 rfl) (by decide) (fun _ q => nomatch q) (by decide) 0 (by decide) (by decide) (by decide) (lenOf pd_7 rfl) rfl (leb rfl) (by rw [hml]; rfl) (D d11_21) ?_
    rintro T2312 h2313 _ X2315 K2316 rfl
    have F2317 := F2305.keep K2316
    have F2318 := F2306.keep K2316 nin0
    have F2319 := F2307.keep K2316 nin0
    have F2320 := F2308.keep K2316 nin0
    show Goes p.tables e below _ (T2312.setTop (mkF m 24 #[.val (.ref s), .val (.int (1 : Int32))] [(.int c1)]))
    exact X2315.reti hret (by simp) hlk (D d11_24) (by decide) (by decide) (congrArg (fun z => some (Value.int z)) (nar_id r1))
set_option maxRecDepth 65536 in
set_option maxHeartbeats 40000000 in
theorem ctUC4_2 (l : Launch) (Z : State) (a0 : Array Value) (hw : ∀ d ∈ tables_1, d.before a0 Z = true) (hEL : EW Z a0 consts_1) (z0 : Int32) (S0 : Sta Z Z.heap "java/lang/String" "COMPACT_STRINGS" "Z" (.int z0)) (hz0 : ¬ z0 = 0) (fm : Value) (hfm : fm.isRef = true) (SF : Sta Z Z.heap "jdk/internal/util/Preconditions" "SIOOBE_FORMATTER" "Ljava/util/function/BiFunction;" fm) (r : Addr) (kr : ClassId) (vs : List Value) (dv : Value) (h0 : Heap) (n0 : Nat) (A0 : Arv Z h0 r kr .byte (8 : Int32) vs dv) :
    Ct l Z consts_1 [] (⟨"java/lang/StringUTF16", "checkIndex", "(I[B)V"⟩ : MethodName) jdk_52_method_91_code 2 none ({ frames := 2, cells := 0, slots := 0, locals := 27 } : Room) #[(.int (2 : Int32)), (.ref r)] h0 n0 [] (fun v _ => v = none) := by
  have w : ∀ {d : Jvm.Cond} (i : Nat), tables_1[i]? = some d → d.before a0 Z = true := fun i q => hw _ (List.mem_of_getElem? q)
  refine Ct.enter (plainFor_of_name pn_2) hEL ?_
  intro p e sS m below meth c T0 hby hml0 hret hlk hnm hs0 X0
  have hml : c.maxLocals = 2 := hml0
  have D : ∀ {pc : Nat} {r : Except DecodeError (Instr × Nat)}, decode jdk_52_method_91_code pc = r → decode c.code pc = r := fun q => hb hby q
  rw [show entryFrame m #[(.int (2 : Int32)), (.ref r)] 2 = mkF m 0 #[.val (.int (2 : Int32)), .val (.ref r)] [] from by first | (simp [entryFrame, mkF, argsToLocals, Value.category]; done) | rfl]
  refine X0.iloadN (x := (2 : Int32)) (D d24_0) rfl ?_
  refine X0.aloadN (x := (.ref r)) (D d24_1) rfl rfl ?_
  refine X0.calls [(.ref r)] [(.int (2 : Int32))] (ctUL4 l Z a0 hw hEL z0 S0 hz0 r kr _ _ _ _ A0) (w 110 rfl) (w 111 rfl) (w 42 rfl) (w 112 rfl) (by decide) (fun _ q => nomatch q) (by decide) 1 (by decide) (by decide) (by decide) (lenOf pd_11 rfl) rfl (leb rfl) (by rw [hml]; rfl) (D d24_2) ?_
  rintro T2321 h2322 _ X2324 K2325 rfl
  have F2326 := A0.keep K2325 nin0
  show Goes p.tables e below _ (T2321.setTop (mkF m 5 #[.val (.int (2 : Int32)), .val (.ref r)] [(.int (4 : Int32)), (.int (2 : Int32))]))
  refine X2324.calls [(.int (2 : Int32)), (.int (4 : Int32))] [] (ctSci l Z a0 hw hEL z0 S0 hz0 fm hfm SF (2 : Int32) (4 : Int32) _ _ (by decide) (by decide)) (w 113 rfl) (w 68 rfl) (w 10 rfl) (w 69 rfl) (by decide) (fun _ q => nomatch q) (by decide) 0 (by decide) (by decide) (by decide) (lenOf pd_12 rfl) rfl (leb rfl) (by rw [hml]; rfl) (D d24_5) ?_
  rintro T2327 h2328 _ X2330 K2331 rfl
  have F2332 := F2326.keep K2331 nin0
  show Goes p.tables e below _ (T2327.setTop (mkF m 8 #[.val (.int (2 : Int32)), .val (.ref r)] []))
  exact X2330.retn hret hlk (D d24_8) (by decide) (by decide) (rfl)
set_option maxRecDepth 65536 in
set_option maxHeartbeats 40000000 in
theorem ctUA4_2 (l : Launch) (Z : State) (a0 : Array Value) (hw : ∀ d ∈ tables_1, d.before a0 Z = true) (hEL : EW Z a0 consts_1) (z0 : Int32) (S0 : Sta Z Z.heap "java/lang/String" "COMPACT_STRINGS" "Z" (.int z0)) (hz0 : ¬ z0 = 0) (SA1 : Sta Z Z.heap "java/lang/StringUTF16" "$assertionsDisabled" "Z" (.int (1 : Int32))) (SH : Sta Z Z.heap "java/lang/StringUTF16" "HI_BYTE_SHIFT" "I" (.int (0 : Int32))) (SL : Sta Z Z.heap "java/lang/StringUTF16" "LO_BYTE_SHIFT" "I" (.int (8 : Int32))) (fm : Value) (hfm : fm.isRef = true) (SF : Sta Z Z.heap "jdk/internal/util/Preconditions" "SIOOBE_FORMATTER" "Ljava/util/function/BiFunction;" fm) (r : Addr) (kr : ClassId) (c0 c1 c2 c3 : Int32) (h0 : Heap) (n0 : Nat) (A0 : Arv Z h0 r kr .byte (8 : Int32) [(.int (StrChars.lo8 c0)), (.int (StrChars.hi8 c0)), (.int (StrChars.lo8 c1)), (.int (StrChars.hi8 c1)), (.int (StrChars.lo8 c2)), (.int (StrChars.hi8 c2)), (.int (StrChars.lo8 c3)), (.int (StrChars.hi8 c3))] (.int (0 : Int32))) (r2 : Rc c2) :
    Ct l Z consts_1 [] (⟨"java/lang/StringUTF16", "charAt", "([BI)C"⟩ : MethodName) jdk_52_method_83_code 2 (some .char) ({ frames := 3, cells := 0, slots := 0, locals := 40 } : Room) #[(.ref r), (.int (2 : Int32))] h0 n0 [] (fun v _ => v = some (.int c2)) := by
  have w : ∀ {d : Jvm.Cond} (i : Nat), tables_1[i]? = some d → d.before a0 Z = true := fun i q => hw _ (List.mem_of_getElem? q)
  refine Ct.enter (plainFor_of_name pn_2) hEL ?_
  intro p e sS m below meth c T0 hby hml0 hret hlk hnm hs0 X0
  have hml : c.maxLocals = 2 := hml0
  have D : ∀ {pc : Nat} {r : Except DecodeError (Instr × Nat)}, decode jdk_52_method_83_code pc = r → decode c.code pc = r := fun q => hb hby q
  rw [show entryFrame m #[(.ref r), (.int (2 : Int32))] 2 = mkF m 0 #[.val (.ref r), .val (.int (2 : Int32))] [] from by first | (simp [entryFrame, mkF, argsToLocals, Value.category]; done) | rfl]
  refine X0.iloadN (x := (2 : Int32)) (D d23_0) rfl ?_
  refine X0.aloadN (x := (.ref r)) (D d23_1) rfl rfl ?_
  refine X0.calls [(.int (2 : Int32)), (.ref r)] [] (ctUC4_2 l Z a0 hw hEL z0 S0 hz0 fm hfm SF r kr _ _ _ _ A0) (w 107 rfl) (w 108 rfl) (w 42 rfl) (w 109 rfl) (by decide) (fun _ q => nomatch q) (by decide) 0 (by decide) (by decide) (by decide) (lenOf pd_13 rfl) rfl (leb rfl) (by rw [hml]; rfl) (D d23_2) ?_
  rintro T2333 h2334 _ X2336 K2337 rfl
  have F2338 := A0.keep K2337 nin0
  show Goes p.tables e below _ (T2333.setTop (mkF m 5 #[.val (.ref r), .val (.int (2 : Int32))] []))
  refine X2336.aloadN (x := (.ref r)) (D d23_5) rfl rfl ?_
  refine X2336.iloadN (x := (2 : Int32)) (D d23_6) rfl ?_
  refine X2336.calls [(.ref r), (.int (2 : Int32))] [] (ctGC4_2 l Z a0 hw hEL z0 S0 hz0 SA1 SH SL r kr c0 c1 c2 c3 _ _ F2338 r2) (w 101 rfl) (w 102 rfl) (w 42 rfl) (w 103 rfl) (by decide) (fun _ q => nomatch q) (by decide) 0 (by decide) (by decide) (by decide) (lenOf pd_7 rfl) rfl (leb rfl) (by rw [hml]; rfl) (D d23_7) ?_
  rintro T2339 h2340 _ X2342 K2343 rfl
  have F2344 := F2338.keep K2343 nin0
  show Goes p.tables e below _ (T2339.setTop (mkF m 10 #[.val (.ref r), .val (.int (2 : Int32))] [(.int c2)]))
  exact X2342.reti hret (by simp) hlk (D d23_10) (by decide) (by decide) (congrArg (fun z => some (Value.int z)) (nar_id r2))
set_option maxRecDepth 65536 in
set_option maxHeartbeats 40000000 in
theorem ctLA4_2 (l : Launch) (Z : State) (a0 : Array Value) (hw : ∀ d ∈ tables_1, d.before a0 Z = true) (hEL : EW Z a0 consts_1) (z0 : Int32) (S0 : Sta Z Z.heap "java/lang/String" "COMPACT_STRINGS" "Z" (.int z0)) (hz0 : ¬ z0 = 0) (fm : Value) (hfm : fm.isRef = true) (SF : Sta Z Z.heap "jdk/internal/util/Preconditions" "SIOOBE_FORMATTER" "Ljava/util/function/BiFunction;" fm) (r : Addr) (kr : ClassId) (c0 c1 c2 c3 : Int32) (h0 : Heap) (n0 : Nat) (A0 : Arv Z h0 r kr .byte (4 : Int32) [(.int (StrChars.lo8 c0)), (.int (StrChars.lo8 c1)), (.int (StrChars.lo8 c2)), (.int (StrChars.lo8 c3))] (.int (0 : Int32))) (r2 : Rc c2) (h8 : ¬ (255 : Int32) < c2) :
    Ct l Z consts_1 [] (⟨"java/lang/StringLatin1", "charAt", "([BI)C"⟩ : MethodName) jdk_43_method_2_code 2 (some .char) ({ frames := 2, cells := 0, slots := 0, locals := 27 } : Room) #[(.ref r), (.int (2 : Int32))] h0 n0 [] (fun v _ => v = some (.int c2)) := by
  have w : ∀ {d : Jvm.Cond} (i : Nat), tables_1[i]? = some d → d.before a0 Z = true := fun i q => hw _ (List.mem_of_getElem? q)
  refine Ct.enter (plainFor_of_name pn_4) hEL ?_
  intro p e sS m below meth c T0 hby hml0 hret hlk hnm hs0 X0
  have hml : c.maxLocals = 2 := hml0
  have D : ∀ {pc : Nat} {r : Except DecodeError (Instr × Nat)}, decode jdk_43_method_2_code pc = r → decode c.code pc = r := fun q => hb hby q
  rw [show entryFrame m #[(.ref r), (.int (2 : Int32))] 2 = mkF m 0 #[.val (.ref r), .val (.int (2 : Int32))] [] from by first | (simp [entryFrame, mkF, argsToLocals, Value.category]; done) | rfl]
  refine X0.iloadN (x := (2 : Int32)) (D d13_0) rfl ?_
  refine X0.aloadN (x := (.ref r)) (D d13_1) rfl rfl ?_
  refine X0.alen A0 (D d13_2) ?_
  refine X0.calls [(.int (2 : Int32)), (.int (4 : Int32))] [] (ctSci l Z a0 hw hEL z0 S0 hz0 fm hfm SF (2 : Int32) (4 : Int32) _ _ (by decide) (by decide)) (w 67 rfl) (w 68 rfl) (w 10 rfl) (w 69 rfl) (by decide) (fun _ q => nomatch q) (by decide) 0 (by decide) (by decide) (by decide) (lenOf pd_12 rfl) rfl (leb rfl) (by rw [hml]; rfl) (D d13_3) ?_
  rintro T2345 h2346 _ X2348 K2349 rfl
  have F2350 := A0.keep K2349 nin0
  show Goes p.tables e below _ (T2345.setTop (mkF m 6 #[.val (.ref r), .val (.int (2 : Int32))] []))
  refine X2348.aloadN (x := (.ref r)) (D d13_6) rfl rfl ?_
  refine X2348.iloadN (x := (2 : Int32)) (D d13_7) rfl ?_
  show Goes p.tables e below _ (T2345.setTop (mkF m 8 #[.val (.ref r), .val (.int (2 : Int32))] [(.int (2 : Int32)), (.ref r)]))
  refine X2348.baload (v := (.int (StrChars.lo8 c2))) F2350 ⟨by decide, by decide⟩ rfl (D d13_8) ?_
  refine X2348.sipush (x := (255 : Int32)) (D d13_9) rfl ?_
  refine X2348.iand (D d13_12) ?_
  refine X2348.i2c (D d13_13) ?_
  exact X2348.reti hret (by simp) hlk (D d13_14) (by decide) (by decide) (ret_lo r2 h8)
set_option maxRecDepth 65536 in
set_option maxHeartbeats 40000000 in
theorem ctCA4_2 (l : Launch) (Z : State) (a0 : Array Value) (hw : ∀ d ∈ tables_1, d.before a0 Z = true) (hEL : EW Z a0 consts_1) (z0 : Int32) (S0 : Sta Z Z.heap "java/lang/String" "COMPACT_STRINGS" "Z" (.int z0)) (hz0 : ¬ z0 = 0) (SA1 : Sta Z Z.heap "java/lang/StringUTF16" "$assertionsDisabled" "Z" (.int (1 : Int32))) (SH : Sta Z Z.heap "java/lang/StringUTF16" "HI_BYTE_SHIFT" "I" (.int (0 : Int32))) (SL : Sta Z Z.heap "java/lang/StringUTF16" "LO_BYTE_SHIFT" "I" (.int (8 : Int32))) (fm : Value) (hfm : fm.isRef = true) (SF : Sta Z Z.heap "jdk/internal/util/Preconditions" "SIOOBE_FORMATTER" "Ljava/util/function/BiFunction;" fm) (s : Addr) (c0 c1 c2 c3 : Int32) (h0 : Heap) (n0 : Nat) (WS : WStr Z h0 s [c0, c1, c2, c3]) (r2 : Rc c2) :
    Ct l Z consts_1 [] (⟨"java/lang/String", "charAt", "(I)C"⟩ : MethodName) jdk_42_method_56_code 2 (some .char) ({ frames := 4, cells := 0, slots := 0, locals := 53 } : Room) #[(.ref s), (.int (2 : Int32))] h0 n0 [] (fun v _ => v = some (.int c2)) := by
  have w : ∀ {d : Jvm.Cond} (i : Nat), tables_1[i]? = some d → d.before a0 Z = true := fun i q => hw _ (List.mem_of_getElem? q)
  refine Ct.enter (plainFor_of_name pn_1) hEL ?_
  intro p e sS m below meth c T0 hby hml0 hret hlk hnm hs0 X0
  have hml : c.maxLocals = 2 := hml0
  have D : ∀ {pc : Nat} {r : Except DecodeError (Instr × Nat)}, decode jdk_42_method_56_code pc = r → decode c.code pc = r := fun q => hb hby q
  rw [show entryFrame m #[(.ref s), (.int (2 : Int32))] 2 = mkF m 0 #[.val (.ref s), .val (.int (2 : Int32))] [] from by first | (simp [entryFrame, mkF, argsToLocals, Value.category]; done) | rfl]
  show Goes p.tables e below _ (T0.setTop (mkF m 0 #[.val (.ref s), .val (.int (2 : Int32))] []))
  rcases WS with ⟨t, OU⟩ | ⟨t, OU⟩
  · show Goes p.tables e below _ (T0.setTop (mkF m 0 #[.val (.ref s), .val (.int (2 : Int32))] []))
    obtain ⟨F2351, hb8, -, kb2352, F2353, F2354, F2355⟩ := id OU
    have F2356 : Arv Z h0 t kb2352 .byte (4 : Int32) [(.int (StrChars.lo8 c0)), (.int (StrChars.lo8 c1)), (.int (StrChars.lo8 c2)), (.int (StrChars.lo8 c3))] (.int (0 : Int32)) := F2355
    refine X0.aloadN (x := (.ref s)) (D d11_0) rfl rfl ?_
    refine X0.callv (y := (⟨"java/lang/String", "isLatin1", "()Z"⟩ : MethodName)) (a := s) (C := "java/lang/String") [] [] (ctIsL0 l Z a0 hw hEL z0 S0 hz0 s _ _ F2354) F2351 (w 58 rfl) (w 59 rfl) (w 61 rfl) (w 60 rfl) (w 10 rfl) (w 62 rfl) (by decide) (fun _ q => nomatch q) (by decide) 0 (by decide) (by decide) (by decide) (lenOf pd_14 rfl) rfl (leb rfl) (by rw [hml]; rfl) (D d11_1) ?_
    rintro T2357 h2358 _ X2360 K2361 rfl
    have F2362 := F2351.keep K2361
    have F2363 := F2353.keep K2361 nin0
    have F2364 := F2354.keep K2361 nin0
    have F2365 := F2356.keep K2361 nin0
    show Goes p.tables e below _ (T2357.setTop (mkF m 4 #[.val (.ref s), .val (.int (2 : Int32))] [(.int (1 : Int32))]))
    refine X2360.if_eq 16 (D d11_4) ⟨by decide, by decide⟩ (fun hc2366 => absurd hc2366 (by decide)) (fun hc2366 => ?_)
    refine X2360.aloadN (x := (.ref s)) (D d11_7) rfl rfl ?_
    refine X2360.getf (w 28 rfl) Via.refl F2363 (D d11_8) ?_
    intro T2367 X2368
    refine X2368.iloadN (x := (2 : Int32)) (D d11_11) rfl ?_
    refine X2368.calls [(.ref t), (.int (2 : Int32))] [] (ctLA4_2 l Z a0 hw hEL z0 S0 hz0 fm hfm SF t _ c0 c1 c2 c3 _ _ F2365 r2 (hb8 c2 (by simp)).2) (w 63 rfl) (w 64 rfl) (w 65 rfl) (w 66 rfl) (by decide) (fun _ q => nomatch q) (by decide) 0 (by decide) (by decide) (by decide) (lenOf pd_7 rfl) rfl (leb rfl) (by rw [hml]; rfl) (D d11_12) ?_
    rintro T2369 h2370 _ X2372 K2373 rfl
    have F2374 := F2362.keep K2373
    have F2375 := F2363.keep K2373 nin0
    have F2376 := F2364.keep K2373 nin0
    have F2377 := F2365.keep K2373 nin0
    show Goes p.tables e below _ (T2369.setTop (mkF m 15 #[.val (.ref s), .val (.int (2 : Int32))] [(.int c2)]))
    exact X2372.reti hret (by simp) hlk (D d11_15) (by decide) (by decide) (congrArg (fun z => some (Value.int z)) (nar_id r2))
  · show Goes p.tables e below _ (T0.setTop (mkF m 0 #[.val (.ref s), .val (.int (2 : Int32))] []))
    obtain ⟨F2378, kb2379, F2380, F2381, F2382⟩ := id OU
    have F2383 : Arv Z h0 t kb2379 .byte (8 : Int32) [(.int (StrChars.lo8 c0)), (.int (StrChars.hi8 c0)), (.int (StrChars.lo8 c1)), (.int (StrChars.hi8 c1)), (.int (StrChars.lo8 c2)), (.int (StrChars.hi8 c2)), (.int (StrChars.lo8 c3)), (.int (StrChars.hi8 c3))] (.int (0 : Int32)) := F2382
    refine X0.aloadN (x := (.ref s)) (D d11_0) rfl rfl ?_
    refine X0.callv (y := (⟨"java/lang/String", "isLatin1", "()Z"⟩ : MethodName)) (a := s) (C := "java/lang/String") [] [] (ctIsL1 l Z a0 hw hEL z0 S0 hz0 s _ _ F2381) F2378 (w 58 rfl) (w 59 rfl) (w 61 rfl) (w 60 rfl) (w 10 rfl) (w 62 rfl) (by decide) (fun _ q => nomatch q) (by decide) 0 (by decide) (by decide) (by decide) (lenOf pd_14 rfl) rfl (leb rfl) (by rw [hml]; rfl) (D d11_1) ?_
    rintro T2384 h2385 _ X2387 K2388 rfl
    have F2389 := F2378.keep K2388
    have F2390 := F2380.keep K2388 nin0
    have F2391 := F2381.keep K2388 nin0
    have F2392 := F2383.keep K2388 nin0
    show Goes p.tables e below _ (T2384.setTop (mkF m 4 #[.val (.ref s), .val (.int (2 : Int32))] [(.int (0 : Int32))]))
    refine X2387.if_eq 16 (D d11_4) ⟨by decide, by decide⟩ (fun hc2393 => ?_) (fun hc2393 => absurd hc2393 (by decide))
    refine X2387.aloadN (x := (.ref s)) (D d11_16) rfl rfl ?_
    refine X2387.getf (w 28 rfl) Via.refl F2390 (D d11_17) ?_
    intro T2394 X2395
    refine X2395.iloadN (x := (2 : Int32)) (D d11_20) rfl ?_
    refine X2395.calls [(.ref t), (.int (2 : Int32))] [] (ctUA4_2 l Z a0 hw hEL z0 S0 hz0 SA1 SH SL fm hfm SF t _ c0 c1 c2 c3 _ _ F2392 r2) (w 104 rfl) (w 105 rfl) (w 42 rfl) (w 106 rfl) (by decide) (fun _ q => nomatch q) (by decide) 0 (by decide) (by decide) (by decide) (lenOf pd_7 rfl) rfl (leb rfl) (by rw [hml]; rfl) (D d11_21) ?_
    rintro T2396 h2397 _ X2399 K2400 rfl
    have F2401 := F2389.keep K2400
    have F2402 := F2390.keep K2400 nin0
    have F2403 := F2391.keep K2400 nin0
    have F2404 := F2392.keep K2400 nin0
    show Goes p.tables e below _ (T2396.setTop (mkF m 24 #[.val (.ref s), .val (.int (2 : Int32))] [(.int c2)]))
    exact X2399.reti hret (by simp) hlk (D d11_24) (by decide) (by decide) (congrArg (fun z => some (Value.int z)) (nar_id r2))
set_option maxRecDepth 65536 in
set_option maxHeartbeats 40000000 in
theorem ctUC4_3 (l : Launch) (Z : State) (a0 : Array Value) (hw : ∀ d ∈ tables_1, d.before a0 Z = true) (hEL : EW Z a0 consts_1) (z0 : Int32) (S0 : Sta Z Z.heap "java/lang/String" "COMPACT_STRINGS" "Z" (.int z0)) (hz0 : ¬ z0 = 0) (fm : Value) (hfm : fm.isRef = true) (SF : Sta Z Z.heap "jdk/internal/util/Preconditions" "SIOOBE_FORMATTER" "Ljava/util/function/BiFunction;" fm) (r : Addr) (kr : ClassId) (vs : List Value) (dv : Value) (h0 : Heap) (n0 : Nat) (A0 : Arv Z h0 r kr .byte (8 : Int32) vs dv) :
    Ct l Z consts_1 [] (⟨"java/lang/StringUTF16", "checkIndex", "(I[B)V"⟩ : MethodName) jdk_52_method_91_code 2 none ({ frames := 2, cells := 0, slots := 0, locals := 27 } : Room) #[(.int (3 : Int32)), (.ref r)] h0 n0 [] (fun v _ => v = none) := by
  have w : ∀ {d : Jvm.Cond} (i : Nat), tables_1[i]? = some d → d.before a0 Z = true := fun i q => hw _ (List.mem_of_getElem? q)
  refine Ct.enter (plainFor_of_name pn_2) hEL ?_
  intro p e sS m below meth c T0 hby hml0 hret hlk hnm hs0 X0
  have hml : c.maxLocals = 2 := hml0
  have D : ∀ {pc : Nat} {r : Except DecodeError (Instr × Nat)}, decode jdk_52_method_91_code pc = r → decode c.code pc = r := fun q => hb hby q
  rw [show entryFrame m #[(.int (3 : Int32)), (.ref r)] 2 = mkF m 0 #[.val (.int (3 : Int32)), .val (.ref r)] [] from by first | (simp [entryFrame, mkF, argsToLocals, Value.category]; done) | rfl]
  refine X0.iloadN (x := (3 : Int32)) (D d24_0) rfl ?_
  refine X0.aloadN (x := (.ref r)) (D d24_1) rfl rfl ?_
  refine X0.calls [(.ref r)] [(.int (3 : Int32))] (ctUL4 l Z a0 hw hEL z0 S0 hz0 r kr _ _ _ _ A0) (w 110 rfl) (w 111 rfl) (w 42 rfl) (w 112 rfl) (by decide) (fun _ q => nomatch q) (by decide) 1 (by decide) (by decide) (by decide) (lenOf pd_11 rfl) rfl (leb rfl) (by rw [hml]; rfl) (D d24_2) ?_
  rintro T2405 h2406 _ X2408 K2409 rfl
  have F2410 := A0.keep K2409 nin0
  show Goes p.tables e below _ (T2405.setTop (mkF m 5 #[.val (.int (3 : Int32)), .val (.ref r)] [(.int (4 : Int32)), (.int (3 : Int32))]))
  refine X2408.calls [(.int (3 : Int32)), (.int (4 : Int32))] [] (ctSci l Z a0 hw hEL z0 S0 hz0 fm hfm SF (3 : Int32) (4 : Int32) _ _ (by decide) (by decide)) (w 113 rfl) (w 68 rfl) (w 10 rfl) (w 69 rfl) (by decide) (fun _ q => nomatch q) (by decide) 0 (by decide) (by decide) (by decide) (lenOf pd_12 rfl) rfl (leb rfl) (by rw [hml]; rfl) (D d24_5) ?_
  rintro T2411 h2412 _ X2414 K2415 rfl
  have F2416 := F2410.keep K2415 nin0
  show Goes p.tables e below _ (T2411.setTop (mkF m 8 #[.val (.int (3 : Int32)), .val (.ref r)] []))
  exact X2414.retn hret hlk (D d24_8) (by decide) (by decide) (rfl)
set_option maxRecDepth 65536 in
set_option maxHeartbeats 40000000 in
theorem ctUA4_3 (l : Launch) (Z : State) (a0 : Array Value) (hw : ∀ d ∈ tables_1, d.before a0 Z = true) (hEL : EW Z a0 consts_1) (z0 : Int32) (S0 : Sta Z Z.heap "java/lang/String" "COMPACT_STRINGS" "Z" (.int z0)) (hz0 : ¬ z0 = 0) (SA1 : Sta Z Z.heap "java/lang/StringUTF16" "$assertionsDisabled" "Z" (.int (1 : Int32))) (SH : Sta Z Z.heap "java/lang/StringUTF16" "HI_BYTE_SHIFT" "I" (.int (0 : Int32))) (SL : Sta Z Z.heap "java/lang/StringUTF16" "LO_BYTE_SHIFT" "I" (.int (8 : Int32))) (fm : Value) (hfm : fm.isRef = true) (SF : Sta Z Z.heap "jdk/internal/util/Preconditions" "SIOOBE_FORMATTER" "Ljava/util/function/BiFunction;" fm) (r : Addr) (kr : ClassId) (c0 c1 c2 c3 : Int32) (h0 : Heap) (n0 : Nat) (A0 : Arv Z h0 r kr .byte (8 : Int32) [(.int (StrChars.lo8 c0)), (.int (StrChars.hi8 c0)), (.int (StrChars.lo8 c1)), (.int (StrChars.hi8 c1)), (.int (StrChars.lo8 c2)), (.int (StrChars.hi8 c2)), (.int (StrChars.lo8 c3)), (.int (StrChars.hi8 c3))] (.int (0 : Int32))) (r3 : Rc c3) :
    Ct l Z consts_1 [] (⟨"java/lang/StringUTF16", "charAt", "([BI)C"⟩ : MethodName) jdk_52_method_83_code 2 (some .char) ({ frames := 3, cells := 0, slots := 0, locals := 40 } : Room) #[(.ref r), (.int (3 : Int32))] h0 n0 [] (fun v _ => v = some (.int c3)) := by
  have w : ∀ {d : Jvm.Cond} (i : Nat), tables_1[i]? = some d → d.before a0 Z = true := fun i q => hw _ (List.mem_of_getElem? q)
  refine Ct.enter (plainFor_of_name pn_2) hEL ?_
  intro p e sS m below meth c T0 hby hml0 hret hlk hnm hs0 X0
  have hml : c.maxLocals = 2 := hml0
  have D : ∀ {pc : Nat} {r : Except DecodeError (Instr × Nat)}, decode jdk_52_method_83_code pc = r → decode c.code pc = r := fun q => hb hby q
  rw [show entryFrame m #[(.ref r), (.int (3 : Int32))] 2 = mkF m 0 #[.val (.ref r), .val (.int (3 : Int32))] [] from by first | (simp [entryFrame, mkF, argsToLocals, Value.category]; done) | rfl]
  refine X0.iloadN (x := (3 : Int32)) (D d23_0) rfl ?_
  refine X0.aloadN (x := (.ref r)) (D d23_1) rfl rfl ?_
  refine X0.calls [(.int (3 : Int32)), (.ref r)] [] (ctUC4_3 l Z a0 hw hEL z0 S0 hz0 fm hfm SF r kr _ _ _ _ A0) (w 107 rfl) (w 108 rfl) (w 42 rfl) (w 109 rfl) (by decide) (fun _ q => nomatch q) (by decide) 0 (by decide) (by decide) (by decide) (lenOf pd_13 rfl) rfl (leb rfl) (by rw [hml]; rfl) (D d23_2) ?_
  rintro T2417 h2418 _ X2420 K2421 rfl
  have F2422 := A0.keep K2421 nin0
  show Goes p.tables e below _ (T2417.setTop (mkF m 5 #[.val (.ref r), .val (.int (3 : Int32))] []))
  refine X2420.aloadN (x := (.ref r)) (D d23_5) rfl rfl ?_
  refine X2420.iloadN (x := (3 : Int32)) (D d23_6) rfl ?_
  refine X2420.calls [(.ref r), (.int (3 : Int32))] [] (ctGC4_3 l Z a0 hw hEL z0 S0 hz0 SA1 SH SL r kr c0 c1 c2 c3 _ _ F2422 r3) (w 101 rfl) (w 102 rfl) (w 42 rfl) (w 103 rfl) (by decide) (fun _ q => nomatch q) (by decide) 0 (by decide) (by decide) (by decide) (lenOf pd_7 rfl) rfl (leb rfl) (by rw [hml]; rfl) (D d23_7) ?_
  rintro T2423 h2424 _ X2426 K2427 rfl
  have F2428 := F2422.keep K2427 nin0
  show Goes p.tables e below _ (T2423.setTop (mkF m 10 #[.val (.ref r), .val (.int (3 : Int32))] [(.int c3)]))
  exact X2426.reti hret (by simp) hlk (D d23_10) (by decide) (by decide) (congrArg (fun z => some (Value.int z)) (nar_id r3))
set_option maxRecDepth 65536 in
set_option maxHeartbeats 40000000 in
theorem ctLA4_3 (l : Launch) (Z : State) (a0 : Array Value) (hw : ∀ d ∈ tables_1, d.before a0 Z = true) (hEL : EW Z a0 consts_1) (z0 : Int32) (S0 : Sta Z Z.heap "java/lang/String" "COMPACT_STRINGS" "Z" (.int z0)) (hz0 : ¬ z0 = 0) (fm : Value) (hfm : fm.isRef = true) (SF : Sta Z Z.heap "jdk/internal/util/Preconditions" "SIOOBE_FORMATTER" "Ljava/util/function/BiFunction;" fm) (r : Addr) (kr : ClassId) (c0 c1 c2 c3 : Int32) (h0 : Heap) (n0 : Nat) (A0 : Arv Z h0 r kr .byte (4 : Int32) [(.int (StrChars.lo8 c0)), (.int (StrChars.lo8 c1)), (.int (StrChars.lo8 c2)), (.int (StrChars.lo8 c3))] (.int (0 : Int32))) (r3 : Rc c3) (h8 : ¬ (255 : Int32) < c3) :
    Ct l Z consts_1 [] (⟨"java/lang/StringLatin1", "charAt", "([BI)C"⟩ : MethodName) jdk_43_method_2_code 2 (some .char) ({ frames := 2, cells := 0, slots := 0, locals := 27 } : Room) #[(.ref r), (.int (3 : Int32))] h0 n0 [] (fun v _ => v = some (.int c3)) := by
  have w : ∀ {d : Jvm.Cond} (i : Nat), tables_1[i]? = some d → d.before a0 Z = true := fun i q => hw _ (List.mem_of_getElem? q)
  refine Ct.enter (plainFor_of_name pn_4) hEL ?_
  intro p e sS m below meth c T0 hby hml0 hret hlk hnm hs0 X0
  have hml : c.maxLocals = 2 := hml0
  have D : ∀ {pc : Nat} {r : Except DecodeError (Instr × Nat)}, decode jdk_43_method_2_code pc = r → decode c.code pc = r := fun q => hb hby q
  rw [show entryFrame m #[(.ref r), (.int (3 : Int32))] 2 = mkF m 0 #[.val (.ref r), .val (.int (3 : Int32))] [] from by first | (simp [entryFrame, mkF, argsToLocals, Value.category]; done) | rfl]
  refine X0.iloadN (x := (3 : Int32)) (D d13_0) rfl ?_
  refine X0.aloadN (x := (.ref r)) (D d13_1) rfl rfl ?_
  refine X0.alen A0 (D d13_2) ?_
  refine X0.calls [(.int (3 : Int32)), (.int (4 : Int32))] [] (ctSci l Z a0 hw hEL z0 S0 hz0 fm hfm SF (3 : Int32) (4 : Int32) _ _ (by decide) (by decide)) (w 67 rfl) (w 68 rfl) (w 10 rfl) (w 69 rfl) (by decide) (fun _ q => nomatch q) (by decide) 0 (by decide) (by decide) (by decide) (lenOf pd_12 rfl) rfl (leb rfl) (by rw [hml]; rfl) (D d13_3) ?_
  rintro T2429 h2430 _ X2432 K2433 rfl
  have F2434 := A0.keep K2433 nin0
  show Goes p.tables e below _ (T2429.setTop (mkF m 6 #[.val (.ref r), .val (.int (3 : Int32))] []))
  refine X2432.aloadN (x := (.ref r)) (D d13_6) rfl rfl ?_
  refine X2432.iloadN (x := (3 : Int32)) (D d13_7) rfl ?_
  show Goes p.tables e below _ (T2429.setTop (mkF m 8 #[.val (.ref r), .val (.int (3 : Int32))] [(.int (3 : Int32)), (.ref r)]))
  refine X2432.baload (v := (.int (StrChars.lo8 c3))) F2434 ⟨by decide, by decide⟩ rfl (D d13_8) ?_
  refine X2432.sipush (x := (255 : Int32)) (D d13_9) rfl ?_
  refine X2432.iand (D d13_12) ?_
  refine X2432.i2c (D d13_13) ?_
  exact X2432.reti hret (by simp) hlk (D d13_14) (by decide) (by decide) (ret_lo r3 h8)
set_option maxRecDepth 65536 in
set_option maxHeartbeats 40000000 in
theorem ctCA4_3 (l : Launch) (Z : State) (a0 : Array Value) (hw : ∀ d ∈ tables_1, d.before a0 Z = true) (hEL : EW Z a0 consts_1) (z0 : Int32) (S0 : Sta Z Z.heap "java/lang/String" "COMPACT_STRINGS" "Z" (.int z0)) (hz0 : ¬ z0 = 0) (SA1 : Sta Z Z.heap "java/lang/StringUTF16" "$assertionsDisabled" "Z" (.int (1 : Int32))) (SH : Sta Z Z.heap "java/lang/StringUTF16" "HI_BYTE_SHIFT" "I" (.int (0 : Int32))) (SL : Sta Z Z.heap "java/lang/StringUTF16" "LO_BYTE_SHIFT" "I" (.int (8 : Int32))) (fm : Value) (hfm : fm.isRef = true) (SF : Sta Z Z.heap "jdk/internal/util/Preconditions" "SIOOBE_FORMATTER" "Ljava/util/function/BiFunction;" fm) (s : Addr) (c0 c1 c2 c3 : Int32) (h0 : Heap) (n0 : Nat) (WS : WStr Z h0 s [c0, c1, c2, c3]) (r3 : Rc c3) :
    Ct l Z consts_1 [] (⟨"java/lang/String", "charAt", "(I)C"⟩ : MethodName) jdk_42_method_56_code 2 (some .char) ({ frames := 4, cells := 0, slots := 0, locals := 53 } : Room) #[(.ref s), (.int (3 : Int32))] h0 n0 [] (fun v _ => v = some (.int c3)) := by
  have w : ∀ {d : Jvm.Cond} (i : Nat), tables_1[i]? = some d → d.before a0 Z = true := fun i q => hw _ (List.mem_of_getElem? q)
  refine Ct.enter (plainFor_of_name pn_1) hEL ?_
  intro p e sS m below meth c T0 hby hml0 hret hlk hnm hs0 X0
  have hml : c.maxLocals = 2 := hml0
  have D : ∀ {pc : Nat} {r : Except DecodeError (Instr × Nat)}, decode jdk_42_method_56_code pc = r → decode c.code pc = r := fun q => hb hby q
  rw [show entryFrame m #[(.ref s), (.int (3 : Int32))] 2 = mkF m 0 #[.val (.ref s), .val (.int (3 : Int32))] [] from by first | (simp [entryFrame, mkF, argsToLocals, Value.category]; done) | rfl]
  show Goes p.tables e below _ (T0.setTop (mkF m 0 #[.val (.ref s), .val (.int (3 : Int32))] []))
  rcases WS with ⟨t, OU⟩ | ⟨t, OU⟩
  · show Goes p.tables e below _ (T0.setTop (mkF m 0 #[.val (.ref s), .val (.int (3 : Int32))] []))
    obtain ⟨F2435, hb8, -, kb2436, F2437, F2438, F2439⟩ := id OU
    have F2440 : Arv Z h0 t kb2436 .byte (4 : Int32) [(.int (StrChars.lo8 c0)), (.int (StrChars.lo8 c1)), (.int (StrChars.lo8 c2)), (.int (StrChars.lo8 c3))] (.int (0 : Int32)) := F2439
    refine X0.aloadN (x := (.ref s)) (D d11_0) rfl rfl ?_
    refine X0.callv (y := (⟨"java/lang/String", "isLatin1", "()Z"⟩ : MethodName)) (a := s) (C := "java/lang/String") [] [] (ctIsL0 l Z a0 hw hEL z0 S0 hz0 s _ _ F2438) F2435 (w 58 rfl) (w 59 rfl) (w 61 rfl) (w 60 rfl) (w 10 rfl) (w 62 rfl) (by decide) (fun _ q => nomatch q) (by decide) 0 (by decide) (by decide) (by decide) (lenOf pd_14 rfl) rfl (leb rfl) (by rw [hml]; rfl) (D d11_1) ?_
    rintro T2441 h2442 _ X2444 K2445 rfl
    have F2446 := F2435.keep K2445
    have F2447 := F2437.keep K2445 nin0
    have F2448 := F2438.keep K2445 nin0
    have F2449 := F2440.keep K2445 nin0
    show Goes p.tables e below _ (T2441.setTop (mkF m 4 #[.val (.ref s), .val (.int (3 : Int32))] [(.int (1 : Int32))]))
    refine X2444.if_eq 16 (D d11_4) ⟨by decide, by decide⟩ (fun hc2450 => absurd hc2450 (by decide)) (fun hc2450 => ?_)
    refine X2444.aloadN (x := (.ref s)) (D d11_7) rfl rfl ?_
    refine X2444.getf (w 28 rfl) Via.refl F2447 (D d11_8) ?_
    intro T2451 X2452
    refine X2452.iloadN (x := (3 : Int32)) (D d11_11) rfl ?_
    refine X2452.calls [(.ref t), (.int (3 : Int32))] [] (ctLA4_3 l Z a0 hw hEL z0 S0 hz0 fm hfm SF t _ c0 c1 c2 c3 _ _ F2449 r3 (hb8 c3 (by simp)).2) (w 63 rfl) (w 64 rfl) (w 65 rfl) (w 66 rfl) (by decide) (fun _ q => nomatch q) (by decide) 0 (by decide) (by decide) (by decide) (lenOf pd_7 rfl) rfl (leb rfl) (by rw [hml]; rfl) (D d11_12) ?_
    rintro T2453 h2454 _ X2456 K2457 rfl
    have F2458 := F2446.keep K2457
    have F2459 := F2447.keep K2457 nin0
    have F2460 := F2448.keep K2457 nin0
    have F2461 := F2449.keep K2457 nin0
    show Goes p.tables e below _ (T2453.setTop (mkF m 15 #[.val (.ref s), .val (.int (3 : Int32))] [(.int c3)]))
    exact X2456.reti hret (by simp) hlk (D d11_15) (by decide) (by decide) (congrArg (fun z => some (Value.int z)) (nar_id r3))
  · show Goes p.tables e below _ (T0.setTop (mkF m 0 #[.val (.ref s), .val (.int (3 : Int32))] []))
    obtain ⟨F2462, kb2463, F2464, F2465, F2466⟩ := id OU
    have F2467 : Arv Z h0 t kb2463 .byte (8 : Int32) [(.int (StrChars.lo8 c0)), (.int (StrChars.hi8 c0)), (.int (StrChars.lo8 c1)), (.int (StrChars.hi8 c1)), (.int (StrChars.lo8 c2)), (.int (StrChars.hi8 c2)), (.int (StrChars.lo8 c3)), (.int (StrChars.hi8 c3))] (.int (0 : Int32)) := F2466
    refine X0.aloadN (x := (.ref s)) (D d11_0) rfl rfl ?_
    refine X0.callv (y := (⟨"java/lang/String", "isLatin1", "()Z"⟩ : MethodName)) (a := s) (C := "java/lang/String") [] [] (ctIsL1 l Z a0 hw hEL z0 S0 hz0 s _ _ F2465) F2462 (w 58 rfl) (w 59 rfl) (w 61 rfl) (w 60 rfl) (w 10 rfl) (w 62 rfl) (by decide) (fun _ q => nomatch q) (by decide) 0 (by decide) (by decide) (by decide) (lenOf pd_14 rfl) rfl (leb rfl) (by rw [hml]; rfl) (D d11_1) ?_
    rintro T2468 h2469 _ X2471 K2472 rfl
    have F2473 := F2462.keep K2472
    have F2474 := F2464.keep K2472 nin0
    have F2475 := F2465.keep K2472 nin0
    have F2476 := F2467.keep K2472 nin0
    show Goes p.tables e below _ (T2468.setTop (mkF m 4 #[.val (.ref s), .val (.int (3 : Int32))] [(.int (0 : Int32))]))
    refine X2471.if_eq 16 (D d11_4) ⟨by decide, by decide⟩ (fun hc2477 => ?_) (fun hc2477 => absurd hc2477 (by decide))
    refine X2471.aloadN (x := (.ref s)) (D d11_16) rfl rfl ?_
    refine X2471.getf (w 28 rfl) Via.refl F2474 (D d11_17) ?_
    intro T2478 X2479
    refine X2479.iloadN (x := (3 : Int32)) (D d11_20) rfl ?_
    refine X2479.calls [(.ref t), (.int (3 : Int32))] [] (ctUA4_3 l Z a0 hw hEL z0 S0 hz0 SA1 SH SL fm hfm SF t _ c0 c1 c2 c3 _ _ F2476 r3) (w 104 rfl) (w 105 rfl) (w 42 rfl) (w 106 rfl) (by decide) (fun _ q => nomatch q) (by decide) 0 (by decide) (by decide) (by decide) (lenOf pd_7 rfl) rfl (leb rfl) (by rw [hml]; rfl) (D d11_21) ?_
    rintro T2480 h2481 _ X2483 K2484 rfl
    have F2485 := F2473.keep K2484
    have F2486 := F2474.keep K2484 nin0
    have F2487 := F2475.keep K2484 nin0
    have F2488 := F2476.keep K2484 nin0
    show Goes p.tables e below _ (T2480.setTop (mkF m 24 #[.val (.ref s), .val (.int (3 : Int32))] [(.int c3)]))
    exact X2483.reti hret (by simp) hlk (D d11_24) (by decide) (by decide) (congrArg (fun z => some (Value.int z)) (nar_id r3))
theorem d5_0 : decode prog_15_method_3_code 0 = .ok (.aload_n 0, 1) := by decide +kernel
theorem d5_1 : decode prog_15_method_3_code 1 = .ok (.invokevirtual 57, 3) := by decide +kernel
theorem d5_4 : decode prog_15_method_3_code 4 = .ok (.ifCond .ne 28, 3) := by decide +kernel
theorem d5_7 : decode prog_15_method_3_code 7 = .ok (.aload_n 0, 1) := by decide +kernel
theorem d5_8 : decode prog_15_method_3_code 8 = .ok (.iconst 0, 1) := by decide +kernel
theorem d5_9 : decode prog_15_method_3_code 9 = .ok (.invokevirtual 63, 3) := by decide +kernel
theorem d5_12 : decode prog_15_method_3_code 12 = .ok (.bipush 32, 2) := by decide +kernel
theorem d5_14 : decode prog_15_method_3_code 14 = .ok (.if_icmp .eq 18, 3) := by decide +kernel
theorem d5_17 : decode prog_15_method_3_code 17 = .ok (.aload_n 0, 1) := by decide +kernel
theorem d5_18 : decode prog_15_method_3_code 18 = .ok (.aload_n 0, 1) := by decide +kernel
theorem d5_19 : decode prog_15_method_3_code 19 = .ok (.invokevirtual 67, 3) := by decide +kernel
theorem d5_22 : decode prog_15_method_3_code 22 = .ok (.iconst 1, 1) := by decide +kernel
theorem d5_23 : decode prog_15_method_3_code 23 = .ok (.isub, 1) := by decide +kernel
theorem d5_24 : decode prog_15_method_3_code 24 = .ok (.invokevirtual 63, 3) := by decide +kernel
theorem d5_27 : decode prog_15_method_3_code 27 = .ok (.bipush 32, 2) := by decide +kernel
theorem d5_29 : decode prog_15_method_3_code 29 = .ok (.if_icmp .ne 5, 3) := by decide +kernel
theorem d5_32 : decode prog_15_method_3_code 32 = .ok (.iconst 0, 1) := by decide +kernel
theorem d5_33 : decode prog_15_method_3_code 33 = .ok (.ireturn, 1) := by decide +kernel
theorem d5_34 : decode prog_15_method_3_code 34 = .ok (.iconst 0, 1) := by decide +kernel
theorem d5_35 : decode prog_15_method_3_code 35 = .ok (.istore_n 1, 1) := by decide +kernel
theorem d5_36 : decode prog_15_method_3_code 36 = .ok (.iload_n 1, 1) := by decide +kernel
theorem d5_37 : decode prog_15_method_3_code 37 = .ok (.aload_n 0, 1) := by decide +kernel
theorem d5_38 : decode prog_15_method_3_code 38 = .ok (.invokevirtual 67, 3) := by decide +kernel
theorem d5_41 : decode prog_15_method_3_code 41 = .ok (.if_icmp .ge 29, 3) := by decide +kernel
theorem d5_44 : decode prog_15_method_3_code 44 = .ok (.aload_n 0, 1) := by decide +kernel
theorem d5_45 : decode prog_15_method_3_code 45 = .ok (.iload_n 1, 1) := by decide +kernel
theorem d5_46 : decode prog_15_method_3_code 46 = .ok (.invokevirtual 63, 3) := by decide +kernel
theorem d5_49 : decode prog_15_method_3_code 49 = .ok (.istore_n 2, 1) := by decide +kernel
theorem d5_50 : decode prog_15_method_3_code 50 = .ok (.iload_n 2, 1) := by decide +kernel
theorem d5_51 : decode prog_15_method_3_code 51 = .ok (.bipush 32, 2) := by decide +kernel
theorem d5_53 : decode prog_15_method_3_code 53 = .ok (.if_icmp .lt 9, 3) := by decide +kernel
theorem d5_56 : decode prog_15_method_3_code 56 = .ok (.iload_n 2, 1) := by decide +kernel
theorem d5_57 : decode prog_15_method_3_code 57 = .ok (.bipush 126, 2) := by decide +kernel
theorem d5_59 : decode prog_15_method_3_code 59 = .ok (.if_icmp .le 5, 3) := by decide +kernel
theorem d5_62 : decode prog_15_method_3_code 62 = .ok (.iconst 0, 1) := by decide +kernel
theorem d5_63 : decode prog_15_method_3_code 63 = .ok (.ireturn, 1) := by decide +kernel
theorem d5_64 : decode prog_15_method_3_code 64 = .ok (.iinc 1 1, 3) := by decide +kernel
theorem d5_67 : decode prog_15_method_3_code 67 = .ok (.goto (-31), 3) := by decide +kernel
theorem d5_70 : decode prog_15_method_3_code 70 = .ok (.iconst 1, 1) := by decide +kernel
theorem d5_71 : decode prog_15_method_3_code 71 = .ok (.ireturn, 1) := by decide +kernel
theorem pn_5 : plainName "com/example/redelivery/redelivery/RedeliveryHeaders" = true := by first | (simp [plainName, overriddenIn]; done) | decide +kernel
set_option maxRecDepth 65536 in
set_option maxHeartbeats 40000000 in
theorem ctIS0 (l : Launch) (Z : State) (a0 : Array Value) (hw : ∀ d ∈ tables_1, d.before a0 Z = true) (hEL : EW Z a0 consts_1) (z0 : Int32) (S0 : Sta Z Z.heap "java/lang/String" "COMPACT_STRINGS" "Z" (.int z0)) (hz0 : ¬ z0 = 0) (SA1 : Sta Z Z.heap "java/lang/StringUTF16" "$assertionsDisabled" "Z" (.int (1 : Int32))) (SH : Sta Z Z.heap "java/lang/StringUTF16" "HI_BYTE_SHIFT" "I" (.int (0 : Int32))) (SL : Sta Z Z.heap "java/lang/StringUTF16" "LO_BYTE_SHIFT" "I" (.int (8 : Int32))) (fm : Value) (hfm : fm.isRef = true) (SF : Sta Z Z.heap "jdk/internal/util/Preconditions" "SIOOBE_FORMATTER" "Ljava/util/function/BiFunction;" fm) (s : Addr) (h0 : Heap) (n0 : Nat) (WS : WStr Z h0 s [])  :
    Ct l Z consts_1 [] (⟨"com/example/redelivery/redelivery/RedeliveryHeaders", "isSendable", "(Ljava/lang/String;)Z"⟩ : MethodName) prog_15_method_3_code 3 (some .boolean) ({ frames := 1, cells := 0, slots := 0, locals := 12 } : Room) #[(.ref s)] h0 n0 [] (fun v _ => (v = some (.int 1) ∧ False) ∨ (v = some (.int 0) ∧ ¬ False)) := by
  have w : ∀ {d : Jvm.Cond} (i : Nat), tables_1[i]? = some d → d.before a0 Z = true := fun i q => hw _ (List.mem_of_getElem? q)
  refine Ct.enter (plainFor_of_name pn_5) hEL ?_
  intro p e sS m below meth c T0 hby hml0 hret hlk hnm hs0 X0
  have hml : c.maxLocals = 3 := hml0
  have D : ∀ {pc : Nat} {r : Except DecodeError (Instr × Nat)}, decode prog_15_method_3_code pc = r → decode c.code pc = r := fun q => hb hby q
  rw [show entryFrame m #[(.ref s)] 3 = mkF m 0 #[.val (.ref s), .unset, .unset] [] from by first | (simp [entryFrame, mkF, argsToLocals, Value.category]; done) | rfl]
  refine X0.aloadN (x := (.ref s)) (D d5_0) rfl rfl ?_
  refine X0.callv (y := (⟨"java/lang/String", "isEmpty", "()Z"⟩ : MethodName)) (a := s) (C := "java/lang/String") [] [] (ctEm0 l Z a0 hw hEL z0 S0 hz0 s  _ _ WS) WS.exa (w 34 rfl) (w 35 rfl) (w 37 rfl) (w 36 rfl) (w 10 rfl) (w 38 rfl) (by decide) (fun _ q => nomatch q) (by decide) 0 (by decide) (by decide) (by decide) (lenOf pd_14 rfl) rfl (leb rfl) (by rw [hml]; rfl) (D d5_1) ?_
  rintro T2489 h2490 _ X2492 K2493 rfl
  have F2494 := WS.keep K2493
  have F2495 := WS.exa.keep K2493
  show Goes p.tables e below _ (T2489.setTop (mkF m 4 #[.val (.ref s), .unset, .unset] [(.int (1 : Int32))]))
  refine X2492.if_ne 32 (D d5_4) ⟨by decide, by decide⟩ (fun hc2496 => ?_) (fun hc2496 => absurd hc2496 (by decide))
  refine X2492.iconst (x := (0 : Int32)) (D d5_32) rfl ?_
  exact X2492.reti hret (by simp) hlk (D d5_33) (by decide) (by decide) (Or.inr ⟨rfl, fun q => q⟩)
theorem pd_15 : parseMethodDescriptor "(I)C" = some ⟨[.int], (some .char)⟩ := by decide +kernel
theorem pd_16 : parseMethodDescriptor "()I" = some ⟨[], (some .int)⟩ := by decide +kernel
set_option maxRecDepth 65536 in
set_option maxHeartbeats 40000000 in
theorem ctIS1 (l : Launch) (Z : State) (a0 : Array Value) (hw : ∀ d ∈ tables_1, d.before a0 Z = true) (hEL : EW Z a0 consts_1) (z0 : Int32) (S0 : Sta Z Z.heap "java/lang/String" "COMPACT_STRINGS" "Z" (.int z0)) (hz0 : ¬ z0 = 0) (SA1 : Sta Z Z.heap "java/lang/StringUTF16" "$assertionsDisabled" "Z" (.int (1 : Int32))) (SH : Sta Z Z.heap "java/lang/StringUTF16" "HI_BYTE_SHIFT" "I" (.int (0 : Int32))) (SL : Sta Z Z.heap "java/lang/StringUTF16" "LO_BYTE_SHIFT" "I" (.int (8 : Int32))) (fm : Value) (hfm : fm.isRef = true) (SF : Sta Z Z.heap "jdk/internal/util/Preconditions" "SIOOBE_FORMATTER" "Ljava/util/function/BiFunction;" fm) (s : Addr) (c0 : Int32) (h0 : Heap) (n0 : Nat) (WS : WStr Z h0 s [c0]) (r0 : Rc c0) :
    Ct l Z consts_1 [] (⟨"com/example/redelivery/redelivery/RedeliveryHeaders", "isSendable", "(Ljava/lang/String;)Z"⟩ : MethodName) prog_15_method_3_code 3 (some .boolean) ({ frames := 5, cells := 0, slots := 0, locals := 66 } : Room) #[(.ref s)] h0 n0 [] (fun v _ => (v = some (.int 1) ∧ (¬ c0 = 32 ∧ ¬ c0 = 32 ∧ okP c0)) ∨ (v = some (.int 0) ∧ ¬ (¬ c0 = 32 ∧ ¬ c0 = 32 ∧ okP c0))) := by
  have w : ∀ {d : Jvm.Cond} (i : Nat), tables_1[i]? = some d → d.before a0 Z = true := fun i q => hw _ (List.mem_of_getElem? q)
  refine Ct.enter (plainFor_of_name pn_5) hEL ?_
  intro p e sS m below meth c T0 hby hml0 hret hlk hnm hs0 X0
  have hml : c.maxLocals = 3 := hml0
  have D : ∀ {pc : Nat} {r : Except DecodeError (Instr × Nat)}, decode prog_15_method_3_code pc = r → decode c.code pc = r := fun q => hb hby q
  rw [show entryFrame m #[(.ref s)] 3 = mkF m 0 #[.val (.ref s), .unset, .unset] [] from by first | (simp [entryFrame, mkF, argsToLocals, Value.category]; done) | rfl]
  refine X0.aloadN (x := (.ref s)) (D d5_0) rfl rfl ?_
  refine X0.callv (y := (⟨"java/lang/String", "isEmpty", "()Z"⟩ : MethodName)) (a := s) (C := "java/lang/String") [] [] (ctEm1 l Z a0 hw hEL z0 S0 hz0 s c0 _ _ WS) WS.exa (w 34 rfl) (w 35 rfl) (w 37 rfl) (w 36 rfl) (w 10 rfl) (w 38 rfl) (by decide) (fun _ q => nomatch q) (by decide) 0 (by decide) (by decide) (by decide) (lenOf pd_14 rfl) rfl (leb rfl) (by rw [hml]; rfl) (D d5_1) ?_
  rintro T2497 h2498 _ X2500 K2501 rfl
  have F2502 := WS.keep K2501
  have F2503 := WS.exa.keep K2501
  show Goes p.tables e below _ (T2497.setTop (mkF m 4 #[.val (.ref s), .unset, .unset] [(.int (0 : Int32))]))
  refine X2500.if_ne 32 (D d5_4) ⟨by decide, by decide⟩ (fun hc2504 => absurd hc2504 (by decide)) (fun hc2504 => ?_)
  refine X2500.aloadN (x := (.ref s)) (D d5_7) rfl rfl ?_
  refine X2500.iconst (x := (0 : Int32)) (D d5_8) rfl ?_
  refine X2500.callv (y := (⟨"java/lang/String", "charAt", "(I)C"⟩ : MethodName)) (a := s) (C := "java/lang/String") [(.int (0 : Int32))] [] (ctCA1_0 l Z a0 hw hEL z0 S0 hz0 SA1 SH SL fm hfm SF s c0 _ _ F2502 r0) F2503 (w 53 rfl) (w 54 rfl) (w 56 rfl) (w 55 rfl) (w 10 rfl) (w 57 rfl) (by decide) (fun _ q => nomatch q) (by decide) 0 (by decide) (by decide) (by decide) (lenOf pd_15 rfl) rfl (leb rfl) (by rw [hml]; rfl) (D d5_9) ?_
  rintro T2505 h2506 _ X2508 K2509 rfl
  have F2510 := F2502.keep K2509
  have F2511 := F2503.keep K2509
  show Goes p.tables e below _ (T2505.setTop (mkF m 12 #[.val (.ref s), .unset, .unset] [(.int c0)]))
  refine X2508.bipush (x := (32 : Int32)) (D d5_12) rfl ?_
  refine X2508.icmp_eq 32 (D d5_14) ⟨by decide, by decide⟩ (fun hc2512 => ?_) (fun hc2512 => ?_)
  · refine X2508.iconst (x := (0 : Int32)) (D d5_32) rfl ?_
    exact X2508.reti hret (by simp) hlk (D d5_33) (by decide) (by decide) (Or.inr ⟨rfl, fun q => q.1 hc2512⟩)
  · refine X2508.aloadN (x := (.ref s)) (D d5_17) rfl rfl ?_
    refine X2508.aloadN (x := (.ref s)) (D d5_18) rfl rfl ?_
    refine X2508.callv (y := (⟨"java/lang/String", "length", "()I"⟩ : MethodName)) (a := s) (C := "java/lang/String") [] [(.ref s)] (ctLn1 l Z a0 hw hEL z0 S0 hz0 s c0 _ _ F2510) F2511 (w 75 rfl) (w 76 rfl) (w 78 rfl) (w 77 rfl) (w 10 rfl) (w 79 rfl) (by decide) (fun _ q => nomatch q) (by decide) 1 (by decide) (by decide) (by decide) (lenOf pd_16 rfl) rfl (leb rfl) (by rw [hml]; rfl) (D d5_19) ?_
    rintro T2513 h2514 _ X2516 K2517 rfl
    have F2518 := F2510.keep K2517
    have F2519 := F2511.keep K2517
    show Goes p.tables e below _ (T2513.setTop (mkF m 22 #[.val (.ref s), .unset, .unset] [(.int (1 : Int32)), (.ref s)]))
    refine X2516.iconst (x := (1 : Int32)) (D d5_22) rfl ?_
    refine X2516.isub (D d5_23) ?_
    show Goes p.tables e below _ (T2513.setTop (mkF m 24 #[.val (.ref s), .unset, .unset] [(.int (0 : Int32)), (.ref s)]))
    refine X2516.callv (y := (⟨"java/lang/String", "charAt", "(I)C"⟩ : MethodName)) (a := s) (C := "java/lang/String") [(.int (0 : Int32))] [] (ctCA1_0 l Z a0 hw hEL z0 S0 hz0 SA1 SH SL fm hfm SF s c0 _ _ F2518 r0) F2519 (w 53 rfl) (w 54 rfl) (w 56 rfl) (w 55 rfl) (w 10 rfl) (w 57 rfl) (by decide) (fun _ q => nomatch q) (by decide) 0 (by decide) (by decide) (by decide) (lenOf pd_15 rfl) rfl (leb rfl) (by rw [hml]; rfl) (D d5_24) ?_
    rintro T2520 h2521 _ X2523 K2524 rfl
    have F2525 := F2518.keep K2524
    have F2526 := F2519.keep K2524
    show Goes p.tables e below _ (T2520.setTop (mkF m 27 #[.val (.ref s), .unset, .unset] [(.int c0)]))
    refine X2523.bipush (x := (32 : Int32)) (D d5_27) rfl ?_
    refine X2523.icmp_ne 34 (D d5_29) ⟨by decide, by decide⟩ (fun hc2527 => ?_) (fun hc2527 => ?_)
    · refine X2523.iconst (x := (0 : Int32)) (D d5_34) rfl ?_
      refine X2523.istoreN #[.val (.ref s), .val (.int (0 : Int32)), .unset] (D d5_35) rfl ?_
      refine X2523.iloadN (x := (0 : Int32)) (D d5_36) rfl ?_
      refine X2523.aloadN (x := (.ref s)) (D d5_37) rfl rfl ?_
      refine X2523.callv (y := (⟨"java/lang/String", "length", "()I"⟩ : MethodName)) (a := s) (C := "java/lang/String") [] [(.int (0 : Int32))] (ctLn1 l Z a0 hw hEL z0 S0 hz0 s c0 _ _ F2525) F2526 (w 75 rfl) (w 76 rfl) (w 78 rfl) (w 77 rfl) (w 10 rfl) (w 79 rfl) (by decide) (fun _ q => nomatch q) (by decide) 1 (by decide) (by decide) (by decide) (lenOf pd_16 rfl) rfl (leb rfl) (by rw [hml]; rfl) (D d5_38) ?_
      rintro T2528 h2529 _ X2531 K2532 rfl
      have F2533 := F2525.keep K2532
      have F2534 := F2526.keep K2532
      show Goes p.tables e below _ (T2528.setTop (mkF m 41 #[.val (.ref s), .val (.int (0 : Int32)), .unset] [(.int (1 : Int32)), (.int (0 : Int32))]))
      refine X2531.icmp_ge 70 (D d5_41) ⟨by decide, by decide⟩ (fun hc2535 => absurd hc2535 (by decide)) (fun hc2535 => ?_)
      refine X2531.aloadN (x := (.ref s)) (D d5_44) rfl rfl ?_
      refine X2531.iloadN (x := (0 : Int32)) (D d5_45) rfl ?_
      refine X2531.callv (y := (⟨"java/lang/String", "charAt", "(I)C"⟩ : MethodName)) (a := s) (C := "java/lang/String") [(.int (0 : Int32))] [] (ctCA1_0 l Z a0 hw hEL z0 S0 hz0 SA1 SH SL fm hfm SF s c0 _ _ F2533 r0) F2534 (w 53 rfl) (w 54 rfl) (w 56 rfl) (w 55 rfl) (w 10 rfl) (w 57 rfl) (by decide) (fun _ q => nomatch q) (by decide) 0 (by decide) (by decide) (by decide) (lenOf pd_15 rfl) rfl (leb rfl) (by rw [hml]; rfl) (D d5_46) ?_
      rintro T2536 h2537 _ X2539 K2540 rfl
      have F2541 := F2533.keep K2540
      have F2542 := F2534.keep K2540
      show Goes p.tables e below _ (T2536.setTop (mkF m 49 #[.val (.ref s), .val (.int (0 : Int32)), .unset] [(.int c0)]))
      refine X2539.istoreN #[.val (.ref s), .val (.int (0 : Int32)), .val (.int c0)] (D d5_49) rfl ?_
      refine X2539.iloadN (x := c0) (D d5_50) rfl ?_
      refine X2539.bipush (x := (32 : Int32)) (D d5_51) rfl ?_
      refine X2539.icmp_lt 62 (D d5_53) ⟨by decide, by decide⟩ (fun hc2543 => ?_) (fun hc2543 => ?_)
      · refine X2539.iconst (x := (0 : Int32)) (D d5_62) rfl ?_
        exact X2539.reti hret (by simp) hlk (D d5_63) (by decide) (by decide) (Or.inr ⟨rfl, fun q => q.2.2.1 hc2543⟩)
      · refine X2539.iloadN (x := c0) (D d5_56) rfl ?_
        refine X2539.bipush (x := (126 : Int32)) (D d5_57) rfl ?_
        refine X2539.icmp_le 64 (D d5_59) ⟨by decide, by decide⟩ (fun hc2544 => ?_) (fun hc2544 => ?_)
        · refine X2539.iinc #[.val (.ref s), .val (.int (1 : Int32)), .val (.int c0)] (D d5_64) rfl rfl ?_
          refine X2539.goto 36 (D d5_67) ⟨by decide, by decide⟩ ?_
          refine X2539.iloadN (x := (1 : Int32)) (D d5_36) rfl ?_
          show Goes p.tables e below _ (T2536.setTop (mkF m 37 #[.val (.ref s), .val (.int (1 : Int32)), .val (.int c0)] [(.int (1 : Int32))]))
          refine X2539.aloadN (x := (.ref s)) (D d5_37) rfl rfl ?_
          refine X2539.callv (y := (⟨"java/lang/String", "length", "()I"⟩ : MethodName)) (a := s) (C := "java/lang/String") [] [(.int (1 : Int32))] (ctLn1 l Z a0 hw hEL z0 S0 hz0 s c0 _ _ F2541) F2542 (w 75 rfl) (w 76 rfl) (w 78 rfl) (w 77 rfl) (w 10 rfl) (w 79 rfl) (by decide) (fun _ q => nomatch q) (by decide) 1 (by decide) (by decide) (by decide) (lenOf pd_16 rfl) rfl (leb rfl) (by rw [hml]; rfl) (D d5_38) ?_
          rintro T2545 h2546 _ X2548 K2549 rfl
          have F2550 := F2541.keep K2549
          have F2551 := F2542.keep K2549
          show Goes p.tables e below _ (T2545.setTop (mkF m 41 #[.val (.ref s), .val (.int (1 : Int32)), .val (.int c0)] [(.int (1 : Int32)), (.int (1 : Int32))]))
          refine X2548.icmp_ge 70 (D d5_41) ⟨by decide, by decide⟩ (fun hc2552 => ?_) (fun hc2552 => absurd hc2552 (by decide))
          refine X2548.iconst (x := (1 : Int32)) (D d5_70) rfl ?_
          exact X2548.reti hret (by simp) hlk (D d5_71) (by decide) (by decide) (Or.inl ⟨rfl, hc2512, hc2527, ⟨hc2543, hc2544⟩⟩)
        · refine X2539.iconst (x := (0 : Int32)) (D d5_62) rfl ?_
          exact X2539.reti hret (by simp) hlk (D d5_63) (by decide) (by decide) (Or.inr ⟨rfl, fun q => q.2.2.2 hc2544⟩)
    · refine X2523.iconst (x := (0 : Int32)) (D d5_32) rfl ?_
      exact X2523.reti hret (by simp) hlk (D d5_33) (by decide) (by decide) (Or.inr ⟨rfl, fun q => q.2.1 hc2527⟩)
set_option maxRecDepth 65536 in
set_option maxHeartbeats 40000000 in
theorem ctIS2 (l : Launch) (Z : State) (a0 : Array Value) (hw : ∀ d ∈ tables_1, d.before a0 Z = true) (hEL : EW Z a0 consts_1) (z0 : Int32) (S0 : Sta Z Z.heap "java/lang/String" "COMPACT_STRINGS" "Z" (.int z0)) (hz0 : ¬ z0 = 0) (SA1 : Sta Z Z.heap "java/lang/StringUTF16" "$assertionsDisabled" "Z" (.int (1 : Int32))) (SH : Sta Z Z.heap "java/lang/StringUTF16" "HI_BYTE_SHIFT" "I" (.int (0 : Int32))) (SL : Sta Z Z.heap "java/lang/StringUTF16" "LO_BYTE_SHIFT" "I" (.int (8 : Int32))) (fm : Value) (hfm : fm.isRef = true) (SF : Sta Z Z.heap "jdk/internal/util/Preconditions" "SIOOBE_FORMATTER" "Ljava/util/function/BiFunction;" fm) (s : Addr) (c0 c1 : Int32) (h0 : Heap) (n0 : Nat) (WS : WStr Z h0 s [c0, c1]) (r0 : Rc c0) (r1 : Rc c1) :
    Ct l Z consts_1 [] (⟨"com/example/redelivery/redelivery/RedeliveryHeaders", "isSendable", "(Ljava/lang/String;)Z"⟩ : MethodName) prog_15_method_3_code 3 (some .boolean) ({ frames := 5, cells := 0, slots := 0, locals := 66 } : Room) #[(.ref s)] h0 n0 [] (fun v _ => (v = some (.int 1) ∧ (¬ c0 = 32 ∧ ¬ c1 = 32 ∧ okP c0 ∧ okP c1)) ∨ (v = some (.int 0) ∧ ¬ (¬ c0 = 32 ∧ ¬ c1 = 32 ∧ okP c0 ∧ okP c1))) := by
  have w : ∀ {d : Jvm.Cond} (i : Nat), tables_1[i]? = some d → d.before a0 Z = true := fun i q => hw _ (List.mem_of_getElem? q)
  refine Ct.enter (plainFor_of_name pn_5) hEL ?_
  intro p e sS m below meth c T0 hby hml0 hret hlk hnm hs0 X0
  have hml : c.maxLocals = 3 := hml0
  have D : ∀ {pc : Nat} {r : Except DecodeError (Instr × Nat)}, decode prog_15_method_3_code pc = r → decode c.code pc = r := fun q => hb hby q
  rw [show entryFrame m #[(.ref s)] 3 = mkF m 0 #[.val (.ref s), .unset, .unset] [] from by first | (simp [entryFrame, mkF, argsToLocals, Value.category]; done) | rfl]
  refine X0.aloadN (x := (.ref s)) (D d5_0) rfl rfl ?_
  refine X0.callv (y := (⟨"java/lang/String", "isEmpty", "()Z"⟩ : MethodName)) (a := s) (C := "java/lang/String") [] [] (ctEm2 l Z a0 hw hEL z0 S0 hz0 s c0 c1 _ _ WS) WS.exa (w 34 rfl) (w 35 rfl) (w 37 rfl) (w 36 rfl) (w 10 rfl) (w 38 rfl) (by decide) (fun _ q => nomatch q) (by decide) 0 (by decide) (by decide) (by decide) (lenOf pd_14 rfl) rfl (leb rfl) (by rw [hml]; rfl) (D d5_1) ?_
  rintro T2553 h2554 _ X2556 K2557 rfl
  have F2558 := WS.keep K2557
  have F2559 := WS.exa.keep K2557
  show Goes p.tables e below _ (T2553.setTop (mkF m 4 #[.val (.ref s), .unset, .unset] [(.int (0 : Int32))]))
  refine X2556.if_ne 32 (D d5_4) ⟨by decide, by decide⟩ (fun hc2560 => absurd hc2560 (by decide)) (fun hc2560 => ?_)
  refine X2556.aloadN (x := (.ref s)) (D d5_7) rfl rfl ?_
  refine X2556.iconst (x := (0 : Int32)) (D d5_8) rfl ?_
  refine X2556.callv (y := (⟨"java/lang/String", "charAt", "(I)C"⟩ : MethodName)) (a := s) (C := "java/lang/String") [(.int (0 : Int32))] [] (ctCA2_0 l Z a0 hw hEL z0 S0 hz0 SA1 SH SL fm hfm SF s c0 c1 _ _ F2558 r0) F2559 (w 53 rfl) (w 54 rfl) (w 56 rfl) (w 55 rfl) (w 10 rfl) (w 57 rfl) (by decide) (fun _ q => nomatch q) (by decide) 0 (by decide) (by decide) (by decide) (lenOf pd_15 rfl) rfl (leb rfl) (by rw [hml]; rfl) (D d5_9) ?_
  rintro T2561 h2562 _ X2564 K2565 rfl
  have F2566 := F2558.keep K2565
  have F2567 := F2559.keep K2565
  show Goes p.tables e below _ (T2561.setTop (mkF m 12 #[.val (.ref s), .unset, .unset] [(.int c0)]))
  refine X2564.bipush (x := (32 : Int32)) (D d5_12) rfl ?_
  refine X2564.icmp_eq 32 (D d5_14) ⟨by decide, by decide⟩ (fun hc2568 => ?_) (fun hc2568 => ?_)
  · refine X2564.iconst (x := (0 : Int32)) (D d5_32) rfl ?_
    exact X2564.reti hret (by simp) hlk (D d5_33) (by decide) (by decide) (Or.inr ⟨rfl, fun q => q.1 hc2568⟩)
  · refine X2564.aloadN (x := (.ref s)) (D d5_17) rfl rfl ?_
    refine X2564.aloadN (x := (.ref s)) (D d5_18) rfl rfl ?_
    refine X2564.callv (y := (⟨"java/lang/String", "length", "()I"⟩ : MethodName)) (a := s) (C := "java/lang/String") [] [(.ref s)] (ctLn2 l Z a0 hw hEL z0 S0 hz0 s c0 c1 _ _ F2566) F2567 (w 75 rfl) (w 76 rfl) (w 78 rfl) (w 77 rfl) (w 10 rfl) (w 79 rfl) (by decide) (fun _ q => nomatch q) (by decide) 1 (by decide) (by decide) (by decide) (lenOf pd_16 rfl) rfl (leb rfl) (by rw [hml]; rfl) (D d5_19) ?_
    rintro T2569 h2570 _ X2572 K2573 rfl
    have F2574 := F2566.keep K2573
    have F2575 := F2567.keep K2573
    show Goes p.tables e below _ (T2569.setTop (mkF m 22 #[.val (.ref s), .unset, .unset] [(.int (2 : Int32)), (.ref s)]))
    refine X2572.iconst (x := (1 : Int32)) (D d5_22) rfl ?_
    refine X2572.isub (D d5_23) ?_
    show Goes p.tables e below _ (T2569.setTop (mkF m 24 #[.val (.ref s), .unset, .unset] [(.int (1 : Int32)), (.ref s)]))
    refine X2572.callv (y := (⟨"java/lang/String", "charAt", "(I)C"⟩ : MethodName)) (a := s) (C := "java/lang/String") [(.int (1 : Int32))] [] (ctCA2_1 l Z a0 hw hEL z0 S0 hz0 SA1 SH SL fm hfm SF s c0 c1 _ _ F2574 r1) F2575 (w 53 rfl) (w 54 rfl) (w 56 rfl) (w 55 rfl) (w 10 rfl) (w 57 rfl) (by decide) (fun _ q => nomatch q) (by decide) 0 (by decide) (by decide) (by decide) (lenOf pd_15 rfl) rfl (leb rfl) (by rw [hml]; rfl) (D d5_24) ?_
    rintro T2576 h2577 _ X2579 K2580 rfl
    have F2581 := F2574.keep K2580
    have F2582 := F2575.keep K2580
    show Goes p.tables e below _ (T2576.setTop (mkF m 27 #[.val (.ref s), .unset, .unset] [(.int c1)]))
    refine X2579.bipush (x := (32 : Int32)) (D d5_27) rfl ?_
    refine X2579.icmp_ne 34 (D d5_29) ⟨by decide, by decide⟩ (fun hc2583 => ?_) (fun hc2583 => ?_)
    · refine X2579.iconst (x := (0 : Int32)) (D d5_34) rfl ?_
      refine X2579.istoreN #[.val (.ref s), .val (.int (0 : Int32)), .unset] (D d5_35) rfl ?_
      refine X2579.iloadN (x := (0 : Int32)) (D d5_36) rfl ?_
      refine X2579.aloadN (x := (.ref s)) (D d5_37) rfl rfl ?_
      refine X2579.callv (y := (⟨"java/lang/String", "length", "()I"⟩ : MethodName)) (a := s) (C := "java/lang/String") [] [(.int (0 : Int32))] (ctLn2 l Z a0 hw hEL z0 S0 hz0 s c0 c1 _ _ F2581) F2582 (w 75 rfl) (w 76 rfl) (w 78 rfl) (w 77 rfl) (w 10 rfl) (w 79 rfl) (by decide) (fun _ q => nomatch q) (by decide) 1 (by decide) (by decide) (by decide) (lenOf pd_16 rfl) rfl (leb rfl) (by rw [hml]; rfl) (D d5_38) ?_
      rintro T2584 h2585 _ X2587 K2588 rfl
      have F2589 := F2581.keep K2588
      have F2590 := F2582.keep K2588
      show Goes p.tables e below _ (T2584.setTop (mkF m 41 #[.val (.ref s), .val (.int (0 : Int32)), .unset] [(.int (2 : Int32)), (.int (0 : Int32))]))
      refine X2587.icmp_ge 70 (D d5_41) ⟨by decide, by decide⟩ (fun hc2591 => absurd hc2591 (by decide)) (fun hc2591 => ?_)
      refine X2587.aloadN (x := (.ref s)) (D d5_44) rfl rfl ?_
      refine X2587.iloadN (x := (0 : Int32)) (D d5_45) rfl ?_
      refine X2587.callv (y := (⟨"java/lang/String", "charAt", "(I)C"⟩ : MethodName)) (a := s) (C := "java/lang/String") [(.int (0 : Int32))] [] (ctCA2_0 l Z a0 hw hEL z0 S0 hz0 SA1 SH SL fm hfm SF s c0 c1 _ _ F2589 r0) F2590 (w 53 rfl) (w 54 rfl) (w 56 rfl) (w 55 rfl) (w 10 rfl) (w 57 rfl) (by decide) (fun _ q => nomatch q) (by decide) 0 (by decide) (by decide) (by decide) (lenOf pd_15 rfl) rfl (leb rfl) (by rw [hml]; rfl) (D d5_46) ?_
      rintro T2592 h2593 _ X2595 K2596 rfl
      have F2597 := F2589.keep K2596
      have F2598 := F2590.keep K2596
      show Goes p.tables e below _ (T2592.setTop (mkF m 49 #[.val (.ref s), .val (.int (0 : Int32)), .unset] [(.int c0)]))
      refine X2595.istoreN #[.val (.ref s), .val (.int (0 : Int32)), .val (.int c0)] (D d5_49) rfl ?_
      refine X2595.iloadN (x := c0) (D d5_50) rfl ?_
      refine X2595.bipush (x := (32 : Int32)) (D d5_51) rfl ?_
      refine X2595.icmp_lt 62 (D d5_53) ⟨by decide, by decide⟩ (fun hc2599 => ?_) (fun hc2599 => ?_)
      · refine X2595.iconst (x := (0 : Int32)) (D d5_62) rfl ?_
        exact X2595.reti hret (by simp) hlk (D d5_63) (by decide) (by decide) (Or.inr ⟨rfl, fun q => q.2.2.1.1 hc2599⟩)
      · refine X2595.iloadN (x := c0) (D d5_56) rfl ?_
        refine X2595.bipush (x := (126 : Int32)) (D d5_57) rfl ?_
        refine X2595.icmp_le 64 (D d5_59) ⟨by decide, by decide⟩ (fun hc2600 => ?_) (fun hc2600 => ?_)
        · refine X2595.iinc #[.val (.ref s), .val (.int (1 : Int32)), .val (.int c0)] (D d5_64) rfl rfl ?_
          refine X2595.goto 36 (D d5_67) ⟨by decide, by decide⟩ ?_
          refine X2595.iloadN (x := (1 : Int32)) (D d5_36) rfl ?_
          show Goes p.tables e below _ (T2592.setTop (mkF m 37 #[.val (.ref s), .val (.int (1 : Int32)), .val (.int c0)] [(.int (1 : Int32))]))
          refine X2595.aloadN (x := (.ref s)) (D d5_37) rfl rfl ?_
          refine X2595.callv (y := (⟨"java/lang/String", "length", "()I"⟩ : MethodName)) (a := s) (C := "java/lang/String") [] [(.int (1 : Int32))] (ctLn2 l Z a0 hw hEL z0 S0 hz0 s c0 c1 _ _ F2597) F2598 (w 75 rfl) (w 76 rfl) (w 78 rfl) (w 77 rfl) (w 10 rfl) (w 79 rfl) (by decide) (fun _ q => nomatch q) (by decide) 1 (by decide) (by decide) (by decide) (lenOf pd_16 rfl) rfl (leb rfl) (by rw [hml]; rfl) (D d5_38) ?_
          rintro T2601 h2602 _ X2604 K2605 rfl
          have F2606 := F2597.keep K2605
          have F2607 := F2598.keep K2605
          show Goes p.tables e below _ (T2601.setTop (mkF m 41 #[.val (.ref s), .val (.int (1 : Int32)), .val (.int c0)] [(.int (2 : Int32)), (.int (1 : Int32))]))
          refine X2604.icmp_ge 70 (D d5_41) ⟨by decide, by decide⟩ (fun hc2608 => absurd hc2608 (by decide)) (fun hc2608 => ?_)
          refine X2604.aloadN (x := (.ref s)) (D d5_44) rfl rfl ?_
          refine X2604.iloadN (x := (1 : Int32)) (D d5_45) rfl ?_
          refine X2604.callv (y := (⟨"java/lang/String", "charAt", "(I)C"⟩ : MethodName)) (a := s) (C := "java/lang/String") [(.int (1 : Int32))] [] (ctCA2_1 l Z a0 hw hEL z0 S0 hz0 SA1 SH SL fm hfm SF s c0 c1 _ _ F2606 r1) F2607 (w 53 rfl) (w 54 rfl) (w 56 rfl) (w 55 rfl) (w 10 rfl) (w 57 rfl) (by decide) (fun _ q => nomatch q) (by decide) 0 (by decide) (by decide) (by decide) (lenOf pd_15 rfl) rfl (leb rfl) (by rw [hml]; rfl) (D d5_46) ?_
          rintro T2609 h2610 _ X2612 K2613 rfl
          have F2614 := F2606.keep K2613
          have F2615 := F2607.keep K2613
          show Goes p.tables e below _ (T2609.setTop (mkF m 49 #[.val (.ref s), .val (.int (1 : Int32)), .val (.int c0)] [(.int c1)]))
          refine X2612.istoreN #[.val (.ref s), .val (.int (1 : Int32)), .val (.int c1)] (D d5_49) rfl ?_
          refine X2612.iloadN (x := c1) (D d5_50) rfl ?_
          refine X2612.bipush (x := (32 : Int32)) (D d5_51) rfl ?_
          refine X2612.icmp_lt 62 (D d5_53) ⟨by decide, by decide⟩ (fun hc2616 => ?_) (fun hc2616 => ?_)
          · refine X2612.iconst (x := (0 : Int32)) (D d5_62) rfl ?_
            exact X2612.reti hret (by simp) hlk (D d5_63) (by decide) (by decide) (Or.inr ⟨rfl, fun q => q.2.2.2.1 hc2616⟩)
          · refine X2612.iloadN (x := c1) (D d5_56) rfl ?_
            refine X2612.bipush (x := (126 : Int32)) (D d5_57) rfl ?_
            refine X2612.icmp_le 64 (D d5_59) ⟨by decide, by decide⟩ (fun hc2617 => ?_) (fun hc2617 => ?_)
            · refine X2612.iinc #[.val (.ref s), .val (.int (2 : Int32)), .val (.int c1)] (D d5_64) rfl rfl ?_
              refine X2612.goto 36 (D d5_67) ⟨by decide, by decide⟩ ?_
              refine X2612.iloadN (x := (2 : Int32)) (D d5_36) rfl ?_
              show Goes p.tables e below _ (T2609.setTop (mkF m 37 #[.val (.ref s), .val (.int (2 : Int32)), .val (.int c1)] [(.int (2 : Int32))]))
              refine X2612.aloadN (x := (.ref s)) (D d5_37) rfl rfl ?_
              refine X2612.callv (y := (⟨"java/lang/String", "length", "()I"⟩ : MethodName)) (a := s) (C := "java/lang/String") [] [(.int (2 : Int32))] (ctLn2 l Z a0 hw hEL z0 S0 hz0 s c0 c1 _ _ F2614) F2615 (w 75 rfl) (w 76 rfl) (w 78 rfl) (w 77 rfl) (w 10 rfl) (w 79 rfl) (by decide) (fun _ q => nomatch q) (by decide) 1 (by decide) (by decide) (by decide) (lenOf pd_16 rfl) rfl (leb rfl) (by rw [hml]; rfl) (D d5_38) ?_
              rintro T2618 h2619 _ X2621 K2622 rfl
              have F2623 := F2614.keep K2622
              have F2624 := F2615.keep K2622
              show Goes p.tables e below _ (T2618.setTop (mkF m 41 #[.val (.ref s), .val (.int (2 : Int32)), .val (.int c1)] [(.int (2 : Int32)), (.int (2 : Int32))]))
              refine X2621.icmp_ge 70 (D d5_41) ⟨by decide, by decide⟩ (fun hc2625 => ?_) (fun hc2625 => absurd hc2625 (by decide))
              refine X2621.iconst (x := (1 : Int32)) (D d5_70) rfl ?_
              exact X2621.reti hret (by simp) hlk (D d5_71) (by decide) (by decide) (Or.inl ⟨rfl, hc2568, hc2583, ⟨hc2599, hc2600⟩, ⟨hc2616, hc2617⟩⟩)
            · refine X2612.iconst (x := (0 : Int32)) (D d5_62) rfl ?_
              exact X2612.reti hret (by simp) hlk (D d5_63) (by decide) (by decide) (Or.inr ⟨rfl, fun q => q.2.2.2.2 hc2617⟩)
        · refine X2595.iconst (x := (0 : Int32)) (D d5_62) rfl ?_
          exact X2595.reti hret (by simp) hlk (D d5_63) (by decide) (by decide) (Or.inr ⟨rfl, fun q => q.2.2.1.2 hc2600⟩)
    · refine X2579.iconst (x := (0 : Int32)) (D d5_32) rfl ?_
      exact X2579.reti hret (by simp) hlk (D d5_33) (by decide) (by decide) (Or.inr ⟨rfl, fun q => q.2.1 hc2583⟩)
set_option maxRecDepth 65536 in
set_option maxHeartbeats 40000000 in
theorem ctIS3 (l : Launch) (Z : State) (a0 : Array Value) (hw : ∀ d ∈ tables_1, d.before a0 Z = true) (hEL : EW Z a0 consts_1) (z0 : Int32) (S0 : Sta Z Z.heap "java/lang/String" "COMPACT_STRINGS" "Z" (.int z0)) (hz0 : ¬ z0 = 0) (SA1 : Sta Z Z.heap "java/lang/StringUTF16" "$assertionsDisabled" "Z" (.int (1 : Int32))) (SH : Sta Z Z.heap "java/lang/StringUTF16" "HI_BYTE_SHIFT" "I" (.int (0 : Int32))) (SL : Sta Z Z.heap "java/lang/StringUTF16" "LO_BYTE_SHIFT" "I" (.int (8 : Int32))) (fm : Value) (hfm : fm.isRef = true) (SF : Sta Z Z.heap "jdk/internal/util/Preconditions" "SIOOBE_FORMATTER" "Ljava/util/function/BiFunction;" fm) (s : Addr) (c0 c1 c2 : Int32) (h0 : Heap) (n0 : Nat) (WS : WStr Z h0 s [c0, c1, c2]) (r0 : Rc c0) (r1 : Rc c1) (r2 : Rc c2) :
    Ct l Z consts_1 [] (⟨"com/example/redelivery/redelivery/RedeliveryHeaders", "isSendable", "(Ljava/lang/String;)Z"⟩ : MethodName) prog_15_method_3_code 3 (some .boolean) ({ frames := 5, cells := 0, slots := 0, locals := 66 } : Room) #[(.ref s)] h0 n0 [] (fun v _ => (v = some (.int 1) ∧ (¬ c0 = 32 ∧ ¬ c2 = 32 ∧ okP c0 ∧ okP c1 ∧ okP c2)) ∨ (v = some (.int 0) ∧ ¬ (¬ c0 = 32 ∧ ¬ c2 = 32 ∧ okP c0 ∧ okP c1 ∧ okP c2))) := by
  have w : ∀ {d : Jvm.Cond} (i : Nat), tables_1[i]? = some d → d.before a0 Z = true := fun i q => hw _ (List.mem_of_getElem? q)
  refine Ct.enter (plainFor_of_name pn_5) hEL ?_
  intro p e sS m below meth c T0 hby hml0 hret hlk hnm hs0 X0
  have hml : c.maxLocals = 3 := hml0
  have D : ∀ {pc : Nat} {r : Except DecodeError (Instr × Nat)}, decode prog_15_method_3_code pc = r → decode c.code pc = r := fun q => hb hby q
  rw [show entryFrame m #[(.ref s)] 3 = mkF m 0 #[.val (.ref s), .unset, .unset] [] from by first | (simp [entryFrame, mkF, argsToLocals, Value.category]; done) | rfl]
  refine X0.aloadN (x := (.ref s)) (D d5_0) rfl rfl ?_
  refine X0.callv (y := (⟨"java/lang/String", "isEmpty", "()Z"⟩ : MethodName)) (a := s) (C := "java/lang/String") [] [] (ctEm3 l Z a0 hw hEL z0 S0 hz0 s c0 c1 c2 _ _ WS) WS.exa (w 34 rfl) (w 35 rfl) (w 37 rfl) (w 36 rfl) (w 10 rfl) (w 38 rfl) (by decide) (fun _ q => nomatch q) (by decide) 0 (by decide) (by decide) (by decide) (lenOf pd_14 rfl) rfl (leb rfl) (by rw [hml]; rfl) (D d5_1) ?_
  rintro T2626 h2627 _ X2629 K2630 rfl
  have F2631 := WS.keep K2630
  have F2632 := WS.exa.keep K2630
  show Goes p.tables e below _ (T2626.setTop (mkF m 4 #[.val (.ref s), .unset, .unset] [(.int (0 : Int32))]))
  refine X2629.if_ne 32 (D d5_4) ⟨by decide, by decide⟩ (fun hc2633 => absurd hc2633 (by decide)) (fun hc2633 => ?_)
  refine X2629.aloadN (x := (.ref s)) (D d5_7) rfl rfl ?_
  refine X2629.iconst (x := (0 : Int32)) (D d5_8) rfl ?_
  refine X2629.callv (y := (⟨"java/lang/String", "charAt", "(I)C"⟩ : MethodName)) (a := s) (C := "java/lang/String") [(.int (0 : Int32))] [] (ctCA3_0 l Z a0 hw hEL z0 S0 hz0 SA1 SH SL fm hfm SF s c0 c1 c2 _ _ F2631 r0) F2632 (w 53 rfl) (w 54 rfl) (w 56 rfl) (w 55 rfl) (w 10 rfl) (w 57 rfl) (by decide) (fun _ q => nomatch q) (by decide) 0 (by decide) (by decide) (by decide) (lenOf pd_15 rfl) rfl (leb rfl) (by rw [hml]; rfl) (D d5_9) ?_
  rintro T2634 h2635 _ X2637 K2638 rfl
  have F2639 := F2631.keep K2638
  have F2640 := F2632.keep K2638
  show Goes p.tables e below _ (T2634.setTop (mkF m 12 #[.val (.ref s), .unset, .unset] [(.int c0)]))
  refine X2637.bipush (x := (32 : Int32)) (D d5_12) rfl ?_
  refine X2637.icmp_eq 32 (D d5_14) ⟨by decide, by decide⟩ (fun hc2641 => ?_) (fun hc2641 => ?_)
  · refine X2637.iconst (x := (0 : Int32)) (D d5_32) rfl ?_
    exact X2637.reti hret (by simp) hlk (D d5_33) (by decide) (by decide) (Or.inr ⟨rfl, fun q => q.1 hc2641⟩)
  · refine X2637.aloadN (x := (.ref s)) (D d5_17) rfl rfl ?_
    refine X2637.aloadN (x := (.ref s)) (D d5_18) rfl rfl ?_
    refine X2637.callv (y := (⟨"java/lang/String", "length", "()I"⟩ : MethodName)) (a := s) (C := "java/lang/String") [] [(.ref s)] (ctLn3 l Z a0 hw hEL z0 S0 hz0 s c0 c1 c2 _ _ F2639) F2640 (w 75 rfl) (w 76 rfl) (w 78 rfl) (w 77 rfl) (w 10 rfl) (w 79 rfl) (by decide) (fun _ q => nomatch q) (by decide) 1 (by decide) (by decide) (by decide) (lenOf pd_16 rfl) rfl (leb rfl) (by rw [hml]; rfl) (D d5_19) ?_
    rintro T2642 h2643 _ X2645 K2646 rfl
    have F2647 := F2639.keep K2646
    have F2648 := F2640.keep K2646
    show Goes p.tables e below _ (T2642.setTop (mkF m 22 #[.val (.ref s), .unset, .unset] [(.int (3 : Int32)), (.ref s)]))
    refine X2645.iconst (x := (1 : Int32)) (D d5_22) rfl ?_
    refine X2645.isub (D d5_23) ?_
    show Goes p.tables e below _ (T2642.setTop (mkF m 24 #[.val (.ref s), .unset, .unset] [(.int (2 : Int32)), (.ref s)]))
    refine X2645.callv (y := (⟨"java/lang/String", "charAt", "(I)C"⟩ : MethodName)) (a := s) (C := "java/lang/String") [(.int (2 : Int32))] [] (ctCA3_2 l Z a0 hw hEL z0 S0 hz0 SA1 SH SL fm hfm SF s c0 c1 c2 _ _ F2647 r2) F2648 (w 53 rfl) (w 54 rfl) (w 56 rfl) (w 55 rfl) (w 10 rfl) (w 57 rfl) (by decide) (fun _ q => nomatch q) (by decide) 0 (by decide) (by decide) (by decide) (lenOf pd_15 rfl) rfl (leb rfl) (by rw [hml]; rfl) (D d5_24) ?_
    rintro T2649 h2650 _ X2652 K2653 rfl
    have F2654 := F2647.keep K2653
    have F2655 := F2648.keep K2653
    show Goes p.tables e below _ (T2649.setTop (mkF m 27 #[.val (.ref s), .unset, .unset] [(.int c2)]))
    refine X2652.bipush (x := (32 : Int32)) (D d5_27) rfl ?_
    refine X2652.icmp_ne 34 (D d5_29) ⟨by decide, by decide⟩ (fun hc2656 => ?_) (fun hc2656 => ?_)
    · refine X2652.iconst (x := (0 : Int32)) (D d5_34) rfl ?_
      refine X2652.istoreN #[.val (.ref s), .val (.int (0 : Int32)), .unset] (D d5_35) rfl ?_
      refine X2652.iloadN (x := (0 : Int32)) (D d5_36) rfl ?_
      refine X2652.aloadN (x := (.ref s)) (D d5_37) rfl rfl ?_
      refine X2652.callv (y := (⟨"java/lang/String", "length", "()I"⟩ : MethodName)) (a := s) (C := "java/lang/String") [] [(.int (0 : Int32))] (ctLn3 l Z a0 hw hEL z0 S0 hz0 s c0 c1 c2 _ _ F2654) F2655 (w 75 rfl) (w 76 rfl) (w 78 rfl) (w 77 rfl) (w 10 rfl) (w 79 rfl) (by decide) (fun _ q => nomatch q) (by decide) 1 (by decide) (by decide) (by decide) (lenOf pd_16 rfl) rfl (leb rfl) (by rw [hml]; rfl) (D d5_38) ?_
      rintro T2657 h2658 _ X2660 K2661 rfl
      have F2662 := F2654.keep K2661
      have F2663 := F2655.keep K2661
      show Goes p.tables e below _ (T2657.setTop (mkF m 41 #[.val (.ref s), .val (.int (0 : Int32)), .unset] [(.int (3 : Int32)), (.int (0 : Int32))]))
      refine X2660.icmp_ge 70 (D d5_41) ⟨by decide, by decide⟩ (fun hc2664 => absurd hc2664 (by decide)) (fun hc2664 => ?_)
      refine X2660.aloadN (x := (.ref s)) (D d5_44) rfl rfl ?_
      refine X2660.iloadN (x := (0 : Int32)) (D d5_45) rfl ?_
      refine X2660.callv (y := (⟨"java/lang/String", "charAt", "(I)C"⟩ : MethodName)) (a := s) (C := "java/lang/String") [(.int (0 : Int32))] [] (ctCA3_0 l Z a0 hw hEL z0 S0 hz0 SA1 SH SL fm hfm SF s c0 c1 c2 _ _ F2662 r0) F2663 (w 53 rfl) (w 54 rfl) (w 56 rfl) (w 55 rfl) (w 10 rfl) (w 57 rfl) (by decide) (fun _ q => nomatch q) (by decide) 0 (by decide) (by decide) (by decide) (lenOf pd_15 rfl) rfl (leb rfl) (by rw [hml]; rfl) (D d5_46) ?_
      rintro T2665 h2666 _ X2668 K2669 rfl
      have F2670 := F2662.keep K2669
      have F2671 := F2663.keep K2669
      show Goes p.tables e below _ (T2665.setTop (mkF m 49 #[.val (.ref s), .val (.int (0 : Int32)), .unset] [(.int c0)]))
      refine X2668.istoreN #[.val (.ref s), .val (.int (0 : Int32)), .val (.int c0)] (D d5_49) rfl ?_
      refine X2668.iloadN (x := c0) (D d5_50) rfl ?_
      refine X2668.bipush (x := (32 : Int32)) (D d5_51) rfl ?_
      refine X2668.icmp_lt 62 (D d5_53) ⟨by decide, by decide⟩ (fun hc2672 => ?_) (fun hc2672 => ?_)
      · refine X2668.iconst (x := (0 : Int32)) (D d5_62) rfl ?_
        exact X2668.reti hret (by simp) hlk (D d5_63) (by decide) (by decide) (Or.inr ⟨rfl, fun q => q.2.2.1.1 hc2672⟩)
      · refine X2668.iloadN (x := c0) (D d5_56) rfl ?_
        refine X2668.bipush (x := (126 : Int32)) (D d5_57) rfl ?_
        refine X2668.icmp_le 64 (D d5_59) ⟨by decide, by decide⟩ (fun hc2673 => ?_) (fun hc2673 => ?_)
        · refine X2668.iinc #[.val (.ref s), .val (.int (1 : Int32)), .val (.int c0)] (D d5_64) rfl rfl ?_
          refine X2668.goto 36 (D d5_67) ⟨by decide, by decide⟩ ?_
          refine X2668.iloadN (x := (1 : Int32)) (D d5_36) rfl ?_
          show Goes p.tables e below _ (T2665.setTop (mkF m 37 #[.val (.ref s), .val (.int (1 : Int32)), .val (.int c0)] [(.int (1 : Int32))]))
          refine X2668.aloadN (x := (.ref s)) (D d5_37) rfl rfl ?_
          refine X2668.callv (y := (⟨"java/lang/String", "length", "()I"⟩ : MethodName)) (a := s) (C := "java/lang/String") [] [(.int (1 : Int32))] (ctLn3 l Z a0 hw hEL z0 S0 hz0 s c0 c1 c2 _ _ F2670) F2671 (w 75 rfl) (w 76 rfl) (w 78 rfl) (w 77 rfl) (w 10 rfl) (w 79 rfl) (by decide) (fun _ q => nomatch q) (by decide) 1 (by decide) (by decide) (by decide) (lenOf pd_16 rfl) rfl (leb rfl) (by rw [hml]; rfl) (D d5_38) ?_
          rintro T2674 h2675 _ X2677 K2678 rfl
          have F2679 := F2670.keep K2678
          have F2680 := F2671.keep K2678
          show Goes p.tables e below _ (T2674.setTop (mkF m 41 #[.val (.ref s), .val (.int (1 : Int32)), .val (.int c0)] [(.int (3 : Int32)), (.int (1 : Int32))]))
          refine X2677.icmp_ge 70 (D d5_41) ⟨by decide, by decide⟩ (fun hc2681 => absurd hc2681 (by decide)) (fun hc2681 => ?_)
          refine X2677.aloadN (x := (.ref s)) (D d5_44) rfl rfl ?_
          refine X2677.iloadN (x := (1 : Int32)) (D d5_45) rfl ?_
          refine X2677.callv (y := (⟨"java/lang/String", "charAt", "(I)C"⟩ : MethodName)) (a := s) (C := "java/lang/String") [(.int (1 : Int32))] [] (ctCA3_1 l Z a0 hw hEL z0 S0 hz0 SA1 SH SL fm hfm SF s c0 c1 c2 _ _ F2679 r1) F2680 (w 53 rfl) (w 54 rfl) (w 56 rfl) (w 55 rfl) (w 10 rfl) (w 57 rfl) (by decide) (fun _ q => nomatch q) (by decide) 0 (by decide) (by decide) (by decide) (lenOf pd_15 rfl) rfl (leb rfl) (by rw [hml]; rfl) (D d5_46) ?_
          rintro T2682 h2683 _ X2685 K2686 rfl
          have F2687 := F2679.keep K2686
          have F2688 := F2680.keep K2686
          show Goes p.tables e below _ (T2682.setTop (mkF m 49 #[.val (.ref s), .val (.int (1 : Int32)), .val (.int c0)] [(.int c1)]))
          refine X2685.istoreN #[.val (.ref s), .val (.int (1 : Int32)), .val (.int c1)] (D d5_49) rfl ?_
          refine X2685.iloadN (x := c1) (D d5_50) rfl ?_
          refine X2685.bipush (x := (32 : Int32)) (D d5_51) rfl ?_
          refine X2685.icmp_lt 62 (D d5_53) ⟨by decide, by decide⟩ (fun hc2689 => ?_) (fun hc2689 => ?_)
          · refine X2685.iconst (x := (0 : Int32)) (D d5_62) rfl ?_
            exact X2685.reti hret (by simp) hlk (D d5_63) (by decide) (by decide) (Or.inr ⟨rfl, fun q => q.2.2.2.1.1 hc2689⟩)
          · refine X2685.iloadN (x := c1) (D d5_56) rfl ?_
            refine X2685.bipush (x := (126 : Int32)) (D d5_57) rfl ?_
            refine X2685.icmp_le 64 (D d5_59) ⟨by decide, by decide⟩ (fun hc2690 => ?_) (fun hc2690 => ?_)
            · refine X2685.iinc #[.val (.ref s), .val (.int (2 : Int32)), .val (.int c1)] (D d5_64) rfl rfl ?_
              refine X2685.goto 36 (D d5_67) ⟨by decide, by decide⟩ ?_
              refine X2685.iloadN (x := (2 : Int32)) (D d5_36) rfl ?_
              show Goes p.tables e below _ (T2682.setTop (mkF m 37 #[.val (.ref s), .val (.int (2 : Int32)), .val (.int c1)] [(.int (2 : Int32))]))
              refine X2685.aloadN (x := (.ref s)) (D d5_37) rfl rfl ?_
              refine X2685.callv (y := (⟨"java/lang/String", "length", "()I"⟩ : MethodName)) (a := s) (C := "java/lang/String") [] [(.int (2 : Int32))] (ctLn3 l Z a0 hw hEL z0 S0 hz0 s c0 c1 c2 _ _ F2687) F2688 (w 75 rfl) (w 76 rfl) (w 78 rfl) (w 77 rfl) (w 10 rfl) (w 79 rfl) (by decide) (fun _ q => nomatch q) (by decide) 1 (by decide) (by decide) (by decide) (lenOf pd_16 rfl) rfl (leb rfl) (by rw [hml]; rfl) (D d5_38) ?_
              rintro T2691 h2692 _ X2694 K2695 rfl
              have F2696 := F2687.keep K2695
              have F2697 := F2688.keep K2695
              show Goes p.tables e below _ (T2691.setTop (mkF m 41 #[.val (.ref s), .val (.int (2 : Int32)), .val (.int c1)] [(.int (3 : Int32)), (.int (2 : Int32))]))
              refine X2694.icmp_ge 70 (D d5_41) ⟨by decide, by decide⟩ (fun hc2698 => absurd hc2698 (by decide)) (fun hc2698 => ?_)
              refine X2694.aloadN (x := (.ref s)) (D d5_44) rfl rfl ?_
              refine X2694.iloadN (x := (2 : Int32)) (D d5_45) rfl ?_
              refine X2694.callv (y := (⟨"java/lang/String", "charAt", "(I)C"⟩ : MethodName)) (a := s) (C := "java/lang/String") [(.int (2 : Int32))] [] (ctCA3_2 l Z a0 hw hEL z0 S0 hz0 SA1 SH SL fm hfm SF s c0 c1 c2 _ _ F2696 r2) F2697 (w 53 rfl) (w 54 rfl) (w 56 rfl) (w 55 rfl) (w 10 rfl) (w 57 rfl) (by decide) (fun _ q => nomatch q) (by decide) 0 (by decide) (by decide) (by decide) (lenOf pd_15 rfl) rfl (leb rfl) (by rw [hml]; rfl) (D d5_46) ?_
              rintro T2699 h2700 _ X2702 K2703 rfl
              have F2704 := F2696.keep K2703
              have F2705 := F2697.keep K2703
              show Goes p.tables e below _ (T2699.setTop (mkF m 49 #[.val (.ref s), .val (.int (2 : Int32)), .val (.int c1)] [(.int c2)]))
              refine X2702.istoreN #[.val (.ref s), .val (.int (2 : Int32)), .val (.int c2)] (D d5_49) rfl ?_
              refine X2702.iloadN (x := c2) (D d5_50) rfl ?_
              refine X2702.bipush (x := (32 : Int32)) (D d5_51) rfl ?_
              refine X2702.icmp_lt 62 (D d5_53) ⟨by decide, by decide⟩ (fun hc2706 => ?_) (fun hc2706 => ?_)
              · refine X2702.iconst (x := (0 : Int32)) (D d5_62) rfl ?_
                exact X2702.reti hret (by simp) hlk (D d5_63) (by decide) (by decide) (Or.inr ⟨rfl, fun q => q.2.2.2.2.1 hc2706⟩)
              · refine X2702.iloadN (x := c2) (D d5_56) rfl ?_
                refine X2702.bipush (x := (126 : Int32)) (D d5_57) rfl ?_
                refine X2702.icmp_le 64 (D d5_59) ⟨by decide, by decide⟩ (fun hc2707 => ?_) (fun hc2707 => ?_)
                · refine X2702.iinc #[.val (.ref s), .val (.int (3 : Int32)), .val (.int c2)] (D d5_64) rfl rfl ?_
                  refine X2702.goto 36 (D d5_67) ⟨by decide, by decide⟩ ?_
                  refine X2702.iloadN (x := (3 : Int32)) (D d5_36) rfl ?_
                  show Goes p.tables e below _ (T2699.setTop (mkF m 37 #[.val (.ref s), .val (.int (3 : Int32)), .val (.int c2)] [(.int (3 : Int32))]))
                  refine X2702.aloadN (x := (.ref s)) (D d5_37) rfl rfl ?_
                  refine X2702.callv (y := (⟨"java/lang/String", "length", "()I"⟩ : MethodName)) (a := s) (C := "java/lang/String") [] [(.int (3 : Int32))] (ctLn3 l Z a0 hw hEL z0 S0 hz0 s c0 c1 c2 _ _ F2704) F2705 (w 75 rfl) (w 76 rfl) (w 78 rfl) (w 77 rfl) (w 10 rfl) (w 79 rfl) (by decide) (fun _ q => nomatch q) (by decide) 1 (by decide) (by decide) (by decide) (lenOf pd_16 rfl) rfl (leb rfl) (by rw [hml]; rfl) (D d5_38) ?_
                  rintro T2708 h2709 _ X2711 K2712 rfl
                  have F2713 := F2704.keep K2712
                  have F2714 := F2705.keep K2712
                  show Goes p.tables e below _ (T2708.setTop (mkF m 41 #[.val (.ref s), .val (.int (3 : Int32)), .val (.int c2)] [(.int (3 : Int32)), (.int (3 : Int32))]))
                  refine X2711.icmp_ge 70 (D d5_41) ⟨by decide, by decide⟩ (fun hc2715 => ?_) (fun hc2715 => absurd hc2715 (by decide))
                  refine X2711.iconst (x := (1 : Int32)) (D d5_70) rfl ?_
                  exact X2711.reti hret (by simp) hlk (D d5_71) (by decide) (by decide) (Or.inl ⟨rfl, hc2641, hc2656, ⟨hc2672, hc2673⟩, ⟨hc2689, hc2690⟩, ⟨hc2706, hc2707⟩⟩)
                · refine X2702.iconst (x := (0 : Int32)) (D d5_62) rfl ?_
                  exact X2702.reti hret (by simp) hlk (D d5_63) (by decide) (by decide) (Or.inr ⟨rfl, fun q => q.2.2.2.2.2 hc2707⟩)
            · refine X2685.iconst (x := (0 : Int32)) (D d5_62) rfl ?_
              exact X2685.reti hret (by simp) hlk (D d5_63) (by decide) (by decide) (Or.inr ⟨rfl, fun q => q.2.2.2.1.2 hc2690⟩)
        · refine X2668.iconst (x := (0 : Int32)) (D d5_62) rfl ?_
          exact X2668.reti hret (by simp) hlk (D d5_63) (by decide) (by decide) (Or.inr ⟨rfl, fun q => q.2.2.1.2 hc2673⟩)
    · refine X2652.iconst (x := (0 : Int32)) (D d5_32) rfl ?_
      exact X2652.reti hret (by simp) hlk (D d5_33) (by decide) (by decide) (Or.inr ⟨rfl, fun q => q.2.1 hc2656⟩)
set_option maxRecDepth 65536 in
set_option maxHeartbeats 40000000 in
theorem ctIS4 (l : Launch) (Z : State) (a0 : Array Value) (hw : ∀ d ∈ tables_1, d.before a0 Z = true) (hEL : EW Z a0 consts_1) (z0 : Int32) (S0 : Sta Z Z.heap "java/lang/String" "COMPACT_STRINGS" "Z" (.int z0)) (hz0 : ¬ z0 = 0) (SA1 : Sta Z Z.heap "java/lang/StringUTF16" "$assertionsDisabled" "Z" (.int (1 : Int32))) (SH : Sta Z Z.heap "java/lang/StringUTF16" "HI_BYTE_SHIFT" "I" (.int (0 : Int32))) (SL : Sta Z Z.heap "java/lang/StringUTF16" "LO_BYTE_SHIFT" "I" (.int (8 : Int32))) (fm : Value) (hfm : fm.isRef = true) (SF : Sta Z Z.heap "jdk/internal/util/Preconditions" "SIOOBE_FORMATTER" "Ljava/util/function/BiFunction;" fm) (s : Addr) (c0 c1 c2 c3 : Int32) (h0 : Heap) (n0 : Nat) (WS : WStr Z h0 s [c0, c1, c2, c3]) (r0 : Rc c0) (r1 : Rc c1) (r2 : Rc c2) (r3 : Rc c3) :
    Ct l Z consts_1 [] (⟨"com/example/redelivery/redelivery/RedeliveryHeaders", "isSendable", "(Ljava/lang/String;)Z"⟩ : MethodName) prog_15_method_3_code 3 (some .boolean) ({ frames := 5, cells := 0, slots := 0, locals := 66 } : Room) #[(.ref s)] h0 n0 [] (fun v _ => (v = some (.int 1) ∧ (¬ c0 = 32 ∧ ¬ c3 = 32 ∧ okP c0 ∧ okP c1 ∧ okP c2 ∧ okP c3)) ∨ (v = some (.int 0) ∧ ¬ (¬ c0 = 32 ∧ ¬ c3 = 32 ∧ okP c0 ∧ okP c1 ∧ okP c2 ∧ okP c3))) := by
  have w : ∀ {d : Jvm.Cond} (i : Nat), tables_1[i]? = some d → d.before a0 Z = true := fun i q => hw _ (List.mem_of_getElem? q)
  refine Ct.enter (plainFor_of_name pn_5) hEL ?_
  intro p e sS m below meth c T0 hby hml0 hret hlk hnm hs0 X0
  have hml : c.maxLocals = 3 := hml0
  have D : ∀ {pc : Nat} {r : Except DecodeError (Instr × Nat)}, decode prog_15_method_3_code pc = r → decode c.code pc = r := fun q => hb hby q
  rw [show entryFrame m #[(.ref s)] 3 = mkF m 0 #[.val (.ref s), .unset, .unset] [] from by first | (simp [entryFrame, mkF, argsToLocals, Value.category]; done) | rfl]
  refine X0.aloadN (x := (.ref s)) (D d5_0) rfl rfl ?_
  refine X0.callv (y := (⟨"java/lang/String", "isEmpty", "()Z"⟩ : MethodName)) (a := s) (C := "java/lang/String") [] [] (ctEm4 l Z a0 hw hEL z0 S0 hz0 s c0 c1 c2 c3 _ _ WS) WS.exa (w 34 rfl) (w 35 rfl) (w 37 rfl) (w 36 rfl) (w 10 rfl) (w 38 rfl) (by decide) (fun _ q => nomatch q) (by decide) 0 (by decide) (by decide) (by decide) (lenOf pd_14 rfl) rfl (leb rfl) (by rw [hml]; rfl) (D d5_1) ?_
  rintro T2716 h2717 _ X2719 K2720 rfl
  have F2721 := WS.keep K2720
  have F2722 := WS.exa.keep K2720
  show Goes p.tables e below _ (T2716.setTop (mkF m 4 #[.val (.ref s), .unset, .unset] [(.int (0 : Int32))]))
  refine X2719.if_ne 32 (D d5_4) ⟨by decide, by decide⟩ (fun hc2723 => absurd hc2723 (by decide)) (fun hc2723 => ?_)
  refine X2719.aloadN (x := (.ref s)) (D d5_7) rfl rfl ?_
  refine X2719.iconst (x := (0 : Int32)) (D d5_8) rfl ?_
  refine X2719.callv (y := (⟨"java/lang/String", "charAt", "(I)C"⟩ : MethodName)) (a := s) (C := "java/lang/String") [(.int (0 : Int32))] [] (ctCA4_0 l Z a0 hw hEL z0 S0 hz0 SA1 SH SL fm hfm SF s c0 c1 c2 c3 _ _ F2721 r0) F2722 (w 53 rfl) (w 54 rfl) (w 56 rfl) (w 55 rfl) (w 10 rfl) (w 57 rfl) (by decide) (fun _ q => nomatch q) (by decide) 0 (by decide) (by decide) (by decide) (lenOf pd_15 rfl) rfl (leb rfl) (by rw [hml]; rfl) (D d5_9) ?_
  rintro T2724 h2725 _ X2727 K2728 rfl
  have F2729 := F2721.keep K2728
  have F2730 := F2722.keep K2728
  show Goes p.tables e below _ (T2724.setTop (mkF m 12 #[.val (.ref s), .unset, .unset] [(.int c0)]))
  refine X2727.bipush (x := (32 : Int32)) (D d5_12) rfl ?_
  refine X2727.icmp_eq 32 (D d5_14) ⟨by decide, by decide⟩ (fun hc2731 => ?_) (fun hc2731 => ?_)
  · refine X2727.iconst (x := (0 : Int32)) (D d5_32) rfl ?_
    exact X2727.reti hret (by simp) hlk (D d5_33) (by decide) (by decide) (Or.inr ⟨rfl, fun q => q.1 hc2731⟩)
  · refine X2727.aloadN (x := (.ref s)) (D d5_17) rfl rfl ?_
    refine X2727.aloadN (x := (.ref s)) (D d5_18) rfl rfl ?_
    refine X2727.callv (y := (⟨"java/lang/String", "length", "()I"⟩ : MethodName)) (a := s) (C := "java/lang/String") [] [(.ref s)] (ctLn4 l Z a0 hw hEL z0 S0 hz0 s c0 c1 c2 c3 _ _ F2729) F2730 (w 75 rfl) (w 76 rfl) (w 78 rfl) (w 77 rfl) (w 10 rfl) (w 79 rfl) (by decide) (fun _ q => nomatch q) (by decide) 1 (by decide) (by decide) (by decide) (lenOf pd_16 rfl) rfl (leb rfl) (by rw [hml]; rfl) (D d5_19) ?_
    rintro T2732 h2733 _ X2735 K2736 rfl
    have F2737 := F2729.keep K2736
    have F2738 := F2730.keep K2736
    show Goes p.tables e below _ (T2732.setTop (mkF m 22 #[.val (.ref s), .unset, .unset] [(.int (4 : Int32)), (.ref s)]))
    refine X2735.iconst (x := (1 : Int32)) (D d5_22) rfl ?_
    refine X2735.isub (D d5_23) ?_
    show Goes p.tables e below _ (T2732.setTop (mkF m 24 #[.val (.ref s), .unset, .unset] [(.int (3 : Int32)), (.ref s)]))
    refine X2735.callv (y := (⟨"java/lang/String", "charAt", "(I)C"⟩ : MethodName)) (a := s) (C := "java/lang/String") [(.int (3 : Int32))] [] (ctCA4_3 l Z a0 hw hEL z0 S0 hz0 SA1 SH SL fm hfm SF s c0 c1 c2 c3 _ _ F2737 r3) F2738 (w 53 rfl) (w 54 rfl) (w 56 rfl) (w 55 rfl) (w 10 rfl) (w 57 rfl) (by decide) (fun _ q => nomatch q) (by decide) 0 (by decide) (by decide) (by decide) (lenOf pd_15 rfl) rfl (leb rfl) (by rw [hml]; rfl) (D d5_24) ?_
    rintro T2739 h2740 _ X2742 K2743 rfl
    have F2744 := F2737.keep K2743
    have F2745 := F2738.keep K2743
    show Goes p.tables e below _ (T2739.setTop (mkF m 27 #[.val (.ref s), .unset, .unset] [(.int c3)]))
    refine X2742.bipush (x := (32 : Int32)) (D d5_27) rfl ?_
    refine X2742.icmp_ne 34 (D d5_29) ⟨by decide, by decide⟩ (fun hc2746 => ?_) (fun hc2746 => ?_)
    · refine X2742.iconst (x := (0 : Int32)) (D d5_34) rfl ?_
      refine X2742.istoreN #[.val (.ref s), .val (.int (0 : Int32)), .unset] (D d5_35) rfl ?_
      refine X2742.iloadN (x := (0 : Int32)) (D d5_36) rfl ?_
      refine X2742.aloadN (x := (.ref s)) (D d5_37) rfl rfl ?_
      refine X2742.callv (y := (⟨"java/lang/String", "length", "()I"⟩ : MethodName)) (a := s) (C := "java/lang/String") [] [(.int (0 : Int32))] (ctLn4 l Z a0 hw hEL z0 S0 hz0 s c0 c1 c2 c3 _ _ F2744) F2745 (w 75 rfl) (w 76 rfl) (w 78 rfl) (w 77 rfl) (w 10 rfl) (w 79 rfl) (by decide) (fun _ q => nomatch q) (by decide) 1 (by decide) (by decide) (by decide) (lenOf pd_16 rfl) rfl (leb rfl) (by rw [hml]; rfl) (D d5_38) ?_
      rintro T2747 h2748 _ X2750 K2751 rfl
      have F2752 := F2744.keep K2751
      have F2753 := F2745.keep K2751
      show Goes p.tables e below _ (T2747.setTop (mkF m 41 #[.val (.ref s), .val (.int (0 : Int32)), .unset] [(.int (4 : Int32)), (.int (0 : Int32))]))
      refine X2750.icmp_ge 70 (D d5_41) ⟨by decide, by decide⟩ (fun hc2754 => absurd hc2754 (by decide)) (fun hc2754 => ?_)
      refine X2750.aloadN (x := (.ref s)) (D d5_44) rfl rfl ?_
      refine X2750.iloadN (x := (0 : Int32)) (D d5_45) rfl ?_
      refine X2750.callv (y := (⟨"java/lang/String", "charAt", "(I)C"⟩ : MethodName)) (a := s) (C := "java/lang/String") [(.int (0 : Int32))] [] (ctCA4_0 l Z a0 hw hEL z0 S0 hz0 SA1 SH SL fm hfm SF s c0 c1 c2 c3 _ _ F2752 r0) F2753 (w 53 rfl) (w 54 rfl) (w 56 rfl) (w 55 rfl) (w 10 rfl) (w 57 rfl) (by decide) (fun _ q => nomatch q) (by decide) 0 (by decide) (by decide) (by decide) (lenOf pd_15 rfl) rfl (leb rfl) (by rw [hml]; rfl) (D d5_46) ?_
      rintro T2755 h2756 _ X2758 K2759 rfl
      have F2760 := F2752.keep K2759
      have F2761 := F2753.keep K2759
      show Goes p.tables e below _ (T2755.setTop (mkF m 49 #[.val (.ref s), .val (.int (0 : Int32)), .unset] [(.int c0)]))
      refine X2758.istoreN #[.val (.ref s), .val (.int (0 : Int32)), .val (.int c0)] (D d5_49) rfl ?_
      refine X2758.iloadN (x := c0) (D d5_50) rfl ?_
      refine X2758.bipush (x := (32 : Int32)) (D d5_51) rfl ?_
      refine X2758.icmp_lt 62 (D d5_53) ⟨by decide, by decide⟩ (fun hc2762 => ?_) (fun hc2762 => ?_)
      · refine X2758.iconst (x := (0 : Int32)) (D d5_62) rfl ?_
        exact X2758.reti hret (by simp) hlk (D d5_63) (by decide) (by decide) (Or.inr ⟨rfl, fun q => q.2.2.1.1 hc2762⟩)
      · refine X2758.iloadN (x := c0) (D d5_56) rfl ?_
        refine X2758.bipush (x := (126 : Int32)) (D d5_57) rfl ?_
        refine X2758.icmp_le 64 (D d5_59) ⟨by decide, by decide⟩ (fun hc2763 => ?_) (fun hc2763 => ?_)
        · refine X2758.iinc #[.val (.ref s), .val (.int (1 : Int32)), .val (.int c0)] (D d5_64) rfl rfl ?_
          refine X2758.goto 36 (D d5_67) ⟨by decide, by decide⟩ ?_
          refine X2758.iloadN (x := (1 : Int32)) (D d5_36) rfl ?_
          show Goes p.tables e below _ (T2755.setTop (mkF m 37 #[.val (.ref s), .val (.int (1 : Int32)), .val (.int c0)] [(.int (1 : Int32))]))
          refine X2758.aloadN (x := (.ref s)) (D d5_37) rfl rfl ?_
          refine X2758.callv (y := (⟨"java/lang/String", "length", "()I"⟩ : MethodName)) (a := s) (C := "java/lang/String") [] [(.int (1 : Int32))] (ctLn4 l Z a0 hw hEL z0 S0 hz0 s c0 c1 c2 c3 _ _ F2760) F2761 (w 75 rfl) (w 76 rfl) (w 78 rfl) (w 77 rfl) (w 10 rfl) (w 79 rfl) (by decide) (fun _ q => nomatch q) (by decide) 1 (by decide) (by decide) (by decide) (lenOf pd_16 rfl) rfl (leb rfl) (by rw [hml]; rfl) (D d5_38) ?_
          rintro T2764 h2765 _ X2767 K2768 rfl
          have F2769 := F2760.keep K2768
          have F2770 := F2761.keep K2768
          show Goes p.tables e below _ (T2764.setTop (mkF m 41 #[.val (.ref s), .val (.int (1 : Int32)), .val (.int c0)] [(.int (4 : Int32)), (.int (1 : Int32))]))
          refine X2767.icmp_ge 70 (D d5_41) ⟨by decide, by decide⟩ (fun hc2771 => absurd hc2771 (by decide)) (fun hc2771 => ?_)
          refine X2767.aloadN (x := (.ref s)) (D d5_44) rfl rfl ?_
          refine X2767.iloadN (x := (1 : Int32)) (D d5_45) rfl ?_
          refine X2767.callv (y := (⟨"java/lang/String", "charAt", "(I)C"⟩ : MethodName)) (a := s) (C := "java/lang/String") [(.int (1 : Int32))] [] (ctCA4_1 l Z a0 hw hEL z0 S0 hz0 SA1 SH SL fm hfm SF s c0 c1 c2 c3 _ _ F2769 r1) F2770 (w 53 rfl) (w 54 rfl) (w 56 rfl) (w 55 rfl) (w 10 rfl) (w 57 rfl) (by decide) (fun _ q => nomatch q) (by decide) 0 (by decide) (by decide) (by decide) (lenOf pd_15 rfl) rfl (leb rfl) (by rw [hml]; rfl) (D d5_46) ?_
          rintro T2772 h2773 _ X2775 K2776 rfl
          have F2777 := F2769.keep K2776
          have F2778 := F2770.keep K2776
          show Goes p.tables e below _ (T2772.setTop (mkF m 49 #[.val (.ref s), .val (.int (1 : Int32)), .val (.int c0)] [(.int c1)]))
          refine X2775.istoreN #[.val (.ref s), .val (.int (1 : Int32)), .val (.int c1)] (D d5_49) rfl ?_
          refine X2775.iloadN (x := c1) (D d5_50) rfl ?_
          refine X2775.bipush (x := (32 : Int32)) (D d5_51) rfl ?_
          refine X2775.icmp_lt 62 (D d5_53) ⟨by decide, by decide⟩ (fun hc2779 => ?_) (fun hc2779 => ?_)
          · refine X2775.iconst (x := (0 : Int32)) (D d5_62) rfl ?_
            exact X2775.reti hret (by simp) hlk (D d5_63) (by decide) (by decide) (Or.inr ⟨rfl, fun q => q.2.2.2.1.1 hc2779⟩)
          · refine X2775.iloadN (x := c1) (D d5_56) rfl ?_
            refine X2775.bipush (x := (126 : Int32)) (D d5_57) rfl ?_
            refine X2775.icmp_le 64 (D d5_59) ⟨by decide, by decide⟩ (fun hc2780 => ?_) (fun hc2780 => ?_)
            · refine X2775.iinc #[.val (.ref s), .val (.int (2 : Int32)), .val (.int c1)] (D d5_64) rfl rfl ?_
              refine X2775.goto 36 (D d5_67) ⟨by decide, by decide⟩ ?_
              refine X2775.iloadN (x := (2 : Int32)) (D d5_36) rfl ?_
              show Goes p.tables e below _ (T2772.setTop (mkF m 37 #[.val (.ref s), .val (.int (2 : Int32)), .val (.int c1)] [(.int (2 : Int32))]))
              refine X2775.aloadN (x := (.ref s)) (D d5_37) rfl rfl ?_
              refine X2775.callv (y := (⟨"java/lang/String", "length", "()I"⟩ : MethodName)) (a := s) (C := "java/lang/String") [] [(.int (2 : Int32))] (ctLn4 l Z a0 hw hEL z0 S0 hz0 s c0 c1 c2 c3 _ _ F2777) F2778 (w 75 rfl) (w 76 rfl) (w 78 rfl) (w 77 rfl) (w 10 rfl) (w 79 rfl) (by decide) (fun _ q => nomatch q) (by decide) 1 (by decide) (by decide) (by decide) (lenOf pd_16 rfl) rfl (leb rfl) (by rw [hml]; rfl) (D d5_38) ?_
              rintro T2781 h2782 _ X2784 K2785 rfl
              have F2786 := F2777.keep K2785
              have F2787 := F2778.keep K2785
              show Goes p.tables e below _ (T2781.setTop (mkF m 41 #[.val (.ref s), .val (.int (2 : Int32)), .val (.int c1)] [(.int (4 : Int32)), (.int (2 : Int32))]))
              refine X2784.icmp_ge 70 (D d5_41) ⟨by decide, by decide⟩ (fun hc2788 => absurd hc2788 (by decide)) (fun hc2788 => ?_)
              refine X2784.aloadN (x := (.ref s)) (D d5_44) rfl rfl ?_
              refine X2784.iloadN (x := (2 : Int32)) (D d5_45) rfl ?_
              refine X2784.callv (y := (⟨"java/lang/String", "charAt", "(I)C"⟩ : MethodName)) (a := s) (C := "java/lang/String") [(.int (2 : Int32))] [] (ctCA4_2 l Z a0 hw hEL z0 S0 hz0 SA1 SH SL fm hfm SF s c0 c1 c2 c3 _ _ F2786 r2) F2787 (w 53 rfl) (w 54 rfl) (w 56 rfl) (w 55 rfl) (w 10 rfl) (w 57 rfl) (by decide) (fun _ q => nomatch q) (by decide) 0 (by decide) (by decide) (by decide) (lenOf pd_15 rfl) rfl (leb rfl) (by rw [hml]; rfl) (D d5_46) ?_
              rintro T2789 h2790 _ X2792 K2793 rfl
              have F2794 := F2786.keep K2793
              have F2795 := F2787.keep K2793
              show Goes p.tables e below _ (T2789.setTop (mkF m 49 #[.val (.ref s), .val (.int (2 : Int32)), .val (.int c1)] [(.int c2)]))
              refine X2792.istoreN #[.val (.ref s), .val (.int (2 : Int32)), .val (.int c2)] (D d5_49) rfl ?_
              refine X2792.iloadN (x := c2) (D d5_50) rfl ?_
              refine X2792.bipush (x := (32 : Int32)) (D d5_51) rfl ?_
              refine X2792.icmp_lt 62 (D d5_53) ⟨by decide, by decide⟩ (fun hc2796 => ?_) (fun hc2796 => ?_)
              · refine X2792.iconst (x := (0 : Int32)) (D d5_62) rfl ?_
                exact X2792.reti hret (by simp) hlk (D d5_63) (by decide) (by decide) (Or.inr ⟨rfl, fun q => q.2.2.2.2.1.1 hc2796⟩)
              · refine X2792.iloadN (x := c2) (D d5_56) rfl ?_
                refine X2792.bipush (x := (126 : Int32)) (D d5_57) rfl ?_
                refine X2792.icmp_le 64 (D d5_59) ⟨by decide, by decide⟩ (fun hc2797 => ?_) (fun hc2797 => ?_)
                · refine X2792.iinc #[.val (.ref s), .val (.int (3 : Int32)), .val (.int c2)] (D d5_64) rfl rfl ?_
                  refine X2792.goto 36 (D d5_67) ⟨by decide, by decide⟩ ?_
                  refine X2792.iloadN (x := (3 : Int32)) (D d5_36) rfl ?_
                  show Goes p.tables e below _ (T2789.setTop (mkF m 37 #[.val (.ref s), .val (.int (3 : Int32)), .val (.int c2)] [(.int (3 : Int32))]))
                  refine X2792.aloadN (x := (.ref s)) (D d5_37) rfl rfl ?_
                  refine X2792.callv (y := (⟨"java/lang/String", "length", "()I"⟩ : MethodName)) (a := s) (C := "java/lang/String") [] [(.int (3 : Int32))] (ctLn4 l Z a0 hw hEL z0 S0 hz0 s c0 c1 c2 c3 _ _ F2794) F2795 (w 75 rfl) (w 76 rfl) (w 78 rfl) (w 77 rfl) (w 10 rfl) (w 79 rfl) (by decide) (fun _ q => nomatch q) (by decide) 1 (by decide) (by decide) (by decide) (lenOf pd_16 rfl) rfl (leb rfl) (by rw [hml]; rfl) (D d5_38) ?_
                  rintro T2798 h2799 _ X2801 K2802 rfl
                  have F2803 := F2794.keep K2802
                  have F2804 := F2795.keep K2802
                  show Goes p.tables e below _ (T2798.setTop (mkF m 41 #[.val (.ref s), .val (.int (3 : Int32)), .val (.int c2)] [(.int (4 : Int32)), (.int (3 : Int32))]))
                  refine X2801.icmp_ge 70 (D d5_41) ⟨by decide, by decide⟩ (fun hc2805 => absurd hc2805 (by decide)) (fun hc2805 => ?_)
                  refine X2801.aloadN (x := (.ref s)) (D d5_44) rfl rfl ?_
                  refine X2801.iloadN (x := (3 : Int32)) (D d5_45) rfl ?_
                  refine X2801.callv (y := (⟨"java/lang/String", "charAt", "(I)C"⟩ : MethodName)) (a := s) (C := "java/lang/String") [(.int (3 : Int32))] [] (ctCA4_3 l Z a0 hw hEL z0 S0 hz0 SA1 SH SL fm hfm SF s c0 c1 c2 c3 _ _ F2803 r3) F2804 (w 53 rfl) (w 54 rfl) (w 56 rfl) (w 55 rfl) (w 10 rfl) (w 57 rfl) (by decide) (fun _ q => nomatch q) (by decide) 0 (by decide) (by decide) (by decide) (lenOf pd_15 rfl) rfl (leb rfl) (by rw [hml]; rfl) (D d5_46) ?_
                  rintro T2806 h2807 _ X2809 K2810 rfl
                  have F2811 := F2803.keep K2810
                  have F2812 := F2804.keep K2810
                  show Goes p.tables e below _ (T2806.setTop (mkF m 49 #[.val (.ref s), .val (.int (3 : Int32)), .val (.int c2)] [(.int c3)]))
                  refine X2809.istoreN #[.val (.ref s), .val (.int (3 : Int32)), .val (.int c3)] (D d5_49) rfl ?_
                  refine X2809.iloadN (x := c3) (D d5_50) rfl ?_
                  refine X2809.bipush (x := (32 : Int32)) (D d5_51) rfl ?_
                  refine X2809.icmp_lt 62 (D d5_53) ⟨by decide, by decide⟩ (fun hc2813 => ?_) (fun hc2813 => ?_)
                  · refine X2809.iconst (x := (0 : Int32)) (D d5_62) rfl ?_
                    exact X2809.reti hret (by simp) hlk (D d5_63) (by decide) (by decide) (Or.inr ⟨rfl, fun q => q.2.2.2.2.2.1 hc2813⟩)
                  · refine X2809.iloadN (x := c3) (D d5_56) rfl ?_
                    refine X2809.bipush (x := (126 : Int32)) (D d5_57) rfl ?_
                    refine X2809.icmp_le 64 (D d5_59) ⟨by decide, by decide⟩ (fun hc2814 => ?_) (fun hc2814 => ?_)
                    · refine X2809.iinc #[.val (.ref s), .val (.int (4 : Int32)), .val (.int c3)] (D d5_64) rfl rfl ?_
                      refine X2809.goto 36 (D d5_67) ⟨by decide, by decide⟩ ?_
                      refine X2809.iloadN (x := (4 : Int32)) (D d5_36) rfl ?_
                      show Goes p.tables e below _ (T2806.setTop (mkF m 37 #[.val (.ref s), .val (.int (4 : Int32)), .val (.int c3)] [(.int (4 : Int32))]))
                      refine X2809.aloadN (x := (.ref s)) (D d5_37) rfl rfl ?_
                      refine X2809.callv (y := (⟨"java/lang/String", "length", "()I"⟩ : MethodName)) (a := s) (C := "java/lang/String") [] [(.int (4 : Int32))] (ctLn4 l Z a0 hw hEL z0 S0 hz0 s c0 c1 c2 c3 _ _ F2811) F2812 (w 75 rfl) (w 76 rfl) (w 78 rfl) (w 77 rfl) (w 10 rfl) (w 79 rfl) (by decide) (fun _ q => nomatch q) (by decide) 1 (by decide) (by decide) (by decide) (lenOf pd_16 rfl) rfl (leb rfl) (by rw [hml]; rfl) (D d5_38) ?_
                      rintro T2815 h2816 _ X2818 K2819 rfl
                      have F2820 := F2811.keep K2819
                      have F2821 := F2812.keep K2819
                      show Goes p.tables e below _ (T2815.setTop (mkF m 41 #[.val (.ref s), .val (.int (4 : Int32)), .val (.int c3)] [(.int (4 : Int32)), (.int (4 : Int32))]))
                      refine X2818.icmp_ge 70 (D d5_41) ⟨by decide, by decide⟩ (fun hc2822 => ?_) (fun hc2822 => absurd hc2822 (by decide))
                      refine X2818.iconst (x := (1 : Int32)) (D d5_70) rfl ?_
                      exact X2818.reti hret (by simp) hlk (D d5_71) (by decide) (by decide) (Or.inl ⟨rfl, hc2731, hc2746, ⟨hc2762, hc2763⟩, ⟨hc2779, hc2780⟩, ⟨hc2796, hc2797⟩, ⟨hc2813, hc2814⟩⟩)
                    · refine X2809.iconst (x := (0 : Int32)) (D d5_62) rfl ?_
                      exact X2809.reti hret (by simp) hlk (D d5_63) (by decide) (by decide) (Or.inr ⟨rfl, fun q => q.2.2.2.2.2.2 hc2814⟩)
                · refine X2792.iconst (x := (0 : Int32)) (D d5_62) rfl ?_
                  exact X2792.reti hret (by simp) hlk (D d5_63) (by decide) (by decide) (Or.inr ⟨rfl, fun q => q.2.2.2.2.1.2 hc2797⟩)
            · refine X2775.iconst (x := (0 : Int32)) (D d5_62) rfl ?_
              exact X2775.reti hret (by simp) hlk (D d5_63) (by decide) (by decide) (Or.inr ⟨rfl, fun q => q.2.2.2.1.2 hc2780⟩)
        · refine X2758.iconst (x := (0 : Int32)) (D d5_62) rfl ?_
          exact X2758.reti hret (by simp) hlk (D d5_63) (by decide) (by decide) (Or.inr ⟨rfl, fun q => q.2.2.1.2 hc2763⟩)
    · refine X2742.iconst (x := (0 : Int32)) (D d5_32) rfl ?_
      exact X2742.reti hret (by simp) hlk (D d5_33) (by decide) (by decide) (Or.inr ⟨rfl, fun q => q.2.1 hc2746⟩)
theorem d0_0 : decode method_3_code 0 = .ok (.iload_n 0, 1) := by decide +kernel
theorem d0_1 : decode method_3_code 1 = .ok (.bipush 8, 2) := by decide +kernel
theorem d0_3 : decode method_3_code 3 = .ok (.iushr, 1) := by decide +kernel
theorem d0_4 : decode method_3_code 4 = .ok (.iconst 1, 1) := by decide +kernel
theorem d0_5 : decode method_3_code 5 = .ok (.iand, 1) := by decide +kernel
theorem d0_6 : decode method_3_code 6 = .ok (.ifCond .ne 11, 3) := by decide +kernel
theorem d0_9 : decode method_3_code 9 = .ok (.iload_n 0, 1) := by decide +kernel
theorem d0_10 : decode method_3_code 10 = .ok (.bipush 127, 2) := by decide +kernel
theorem d0_12 : decode method_3_code 12 = .ok (.iand, 1) := by decide +kernel
theorem d0_13 : decode method_3_code 13 = .ok (.i2c, 1) := by decide +kernel
theorem d0_14 : decode method_3_code 14 = .ok (.goto 8, 3) := by decide +kernel
theorem d0_17 : decode method_3_code 17 = .ok (.iload_n 0, 1) := by decide +kernel
theorem d0_18 : decode method_3_code 18 = .ok (.bipush 16, 2) := by decide +kernel
theorem d0_20 : decode method_3_code 20 = .ok (.iushr, 1) := by decide +kernel
theorem d0_21 : decode method_3_code 21 = .ok (.i2c, 1) := by decide +kernel
theorem d0_22 : decode method_3_code 22 = .ok (.ireturn, 1) := by decide +kernel
set_option maxRecDepth 65536 in
set_option maxHeartbeats 40000000 in
theorem ctDr (l : Launch) (Z : State) (a0 : Array Value) (hw : ∀ d ∈ tables_1, d.before a0 Z = true) (hEL : EW Z a0 consts_1) (z0 : Int32) (S0 : Sta Z Z.heap "java/lang/String" "COMPACT_STRINGS" "Z" (.int z0)) (hz0 : ¬ z0 = 0) (x : Int32) (h0 : Heap) (n0 : Nat)  :
    Ct l Z consts_1 [] (⟨"com/example/redelivery/redelivery/RedeliveryHeadersIsSendablePinLaw", "draw", "(I)C"⟩ : MethodName) method_3_code 1 (some .char) ({ frames := 0, cells := 0, slots := 0, locals := 0 } : Room) #[(.int x)] h0 n0 [] (fun v _ => ∃ c : Int32, v = some (.int c) ∧ Rc c) := by
  have w : ∀ {d : Jvm.Cond} (i : Nat), tables_1[i]? = some d → d.before a0 Z = true := fun i q => hw _ (List.mem_of_getElem? q)
  refine Ct.enter (plainFor_of_name pn_3) hEL ?_
  intro p e sS m below meth c T0 hby hml0 hret hlk hnm hs0 X0
  have hml : c.maxLocals = 1 := hml0
  have D : ∀ {pc : Nat} {r : Except DecodeError (Instr × Nat)}, decode method_3_code pc = r → decode c.code pc = r := fun q => hb hby q
  rw [show entryFrame m #[(.int x)] 1 = mkF m 0 #[.val (.int x)] [] from by first | (simp [entryFrame, mkF, argsToLocals, Value.category]; done) | rfl]
  refine X0.iloadN (x := x) (D d0_0) rfl ?_
  refine X0.bipush (x := (8 : Int32)) (D d0_1) rfl ?_
  refine X0.iushr (D d0_3) ?_
  refine X0.iconst (x := (1 : Int32)) (D d0_4) rfl ?_
  refine X0.iand (D d0_5) ?_
  refine X0.if_ne 17 (D d0_6) ⟨by decide, by decide⟩ (fun hc2823 => ?_) (fun hc2823 => ?_)
  · refine X0.iloadN (x := x) (D d0_17) rfl ?_
    refine X0.bipush (x := (16 : Int32)) (D d0_18) rfl ?_
    refine X0.iushr (D d0_20) ?_
    refine X0.i2c (D d0_21) ?_
    exact X0.reti hret (by simp) hlk (D d0_22) (by decide) (by decide) (⟨_, rfl, i2c_rng _⟩)
  · refine X0.iloadN (x := x) (D d0_9) rfl ?_
    refine X0.bipush (x := (127 : Int32)) (D d0_10) rfl ?_
    refine X0.iand (D d0_12) ?_
    refine X0.i2c (D d0_13) ?_
    refine X0.goto 22 (D d0_14) ⟨by decide, by decide⟩ ?_
    show Goes p.tables e below _ (T0.setTop (mkF m 22 #[.val (.int x)] [(.int (i2c (x &&& (127 : Int32))))]))
    exact X0.reti hret (by simp) hlk (D d0_22) (by decide) (by decide) (⟨_, rfl, i2c_rng _⟩)
theorem d10_0 : decode method_4_code 0 = .ok (.iload_n 0, 1) := by decide +kernel
theorem d10_1 : decode method_4_code 1 = .ok (.bipush 32, 2) := by decide +kernel
theorem d10_3 : decode method_4_code 3 = .ok (.if_icmp .lt 13, 3) := by decide +kernel
theorem d10_6 : decode method_4_code 6 = .ok (.iload_n 0, 1) := by decide +kernel
theorem d10_7 : decode method_4_code 7 = .ok (.bipush 126, 2) := by decide +kernel
theorem d10_9 : decode method_4_code 9 = .ok (.if_icmp .gt 7, 3) := by decide +kernel
theorem d10_12 : decode method_4_code 12 = .ok (.iconst 1, 1) := by decide +kernel
theorem d10_13 : decode method_4_code 13 = .ok (.goto 4, 3) := by decide +kernel
theorem d10_16 : decode method_4_code 16 = .ok (.iconst 0, 1) := by decide +kernel
theorem d10_17 : decode method_4_code 17 = .ok (.ireturn, 1) := by decide +kernel
set_option maxRecDepth 65536 in
set_option maxHeartbeats 40000000 in
theorem ctOk (l : Launch) (Z : State) (a0 : Array Value) (hw : ∀ d ∈ tables_1, d.before a0 Z = true) (hEL : EW Z a0 consts_1) (z0 : Int32) (S0 : Sta Z Z.heap "java/lang/String" "COMPACT_STRINGS" "Z" (.int z0)) (hz0 : ¬ z0 = 0) (x : Int32) (h0 : Heap) (n0 : Nat)  :
    Ct l Z consts_1 [] (⟨"com/example/redelivery/redelivery/RedeliveryHeadersIsSendablePinLaw", "ok", "(C)Z"⟩ : MethodName) method_4_code 1 (some .boolean) ({ frames := 0, cells := 0, slots := 0, locals := 0 } : Room) #[(.int x)] h0 n0 [] (fun v _ => (v = some (.int 1) ∧ okP x) ∨ (v = some (.int 0) ∧ ¬ okP x)) := by
  have w : ∀ {d : Jvm.Cond} (i : Nat), tables_1[i]? = some d → d.before a0 Z = true := fun i q => hw _ (List.mem_of_getElem? q)
  refine Ct.enter (plainFor_of_name pn_3) hEL ?_
  intro p e sS m below meth c T0 hby hml0 hret hlk hnm hs0 X0
  have hml : c.maxLocals = 1 := hml0
  have D : ∀ {pc : Nat} {r : Except DecodeError (Instr × Nat)}, decode method_4_code pc = r → decode c.code pc = r := fun q => hb hby q
  rw [show entryFrame m #[(.int x)] 1 = mkF m 0 #[.val (.int x)] [] from by first | (simp [entryFrame, mkF, argsToLocals, Value.category]; done) | rfl]
  refine X0.iloadN (x := x) (D d10_0) rfl ?_
  refine X0.bipush (x := (32 : Int32)) (D d10_1) rfl ?_
  refine X0.icmp_lt 16 (D d10_3) ⟨by decide, by decide⟩ (fun hc2824 => ?_) (fun hc2824 => ?_)
  · refine X0.iconst (x := (0 : Int32)) (D d10_16) rfl ?_
    exact X0.reti hret (by simp) hlk (D d10_17) (by decide) (by decide) (Or.inr ⟨rfl, fun q => q.1 hc2824⟩)
  · refine X0.iloadN (x := x) (D d10_6) rfl ?_
    refine X0.bipush (x := (126 : Int32)) (D d10_7) rfl ?_
    refine X0.icmp_gt 16 (D d10_9) ⟨by decide, by decide⟩ (fun hc2825 => ?_) (fun hc2825 => ?_)
    · refine X0.iconst (x := (0 : Int32)) (D d10_16) rfl ?_
      exact X0.reti hret (by simp) hlk (D d10_17) (by decide) (by decide) (Or.inr ⟨rfl, fun q => q.2 hc2825⟩)
    · refine X0.iconst (x := (1 : Int32)) (D d10_12) rfl ?_
      refine X0.goto 17 (D d10_13) ⟨by decide, by decide⟩ ?_
      exact X0.reti hret (by simp) hlk (D d10_17) (by decide) (by decide) (Or.inl ⟨rfl, hc2824, hc2825⟩)
theorem pd_17 : parseMethodDescriptor "(ICCCC)Ljava/lang/String;" = some ⟨[.int, .char, .char, .char, .char], (some (.object "java/lang/String"))⟩ := by decide +kernel
theorem pd_18 : parseMethodDescriptor "(Ljava/lang/String;)Z" = some ⟨[(.object "java/lang/String")], (some .boolean)⟩ := by decide +kernel
theorem pd_19 : parseMethodDescriptor "(C)Z" = some ⟨[.char], (some .boolean)⟩ := by decide +kernel
set_option maxRecDepth 65536 in
set_option maxHeartbeats 40000000 in
theorem ctLaw (l : Launch) (Z : State) (a0 : Array Value) (hw : ∀ d ∈ tables_1, d.before a0 Z = true) (hEL : EW Z a0 consts_1) (z0 : Int32) (S0 : Sta Z Z.heap "java/lang/String" "COMPACT_STRINGS" "Z" (.int z0)) (hz0 : ¬ z0 = 0) (SA1 : Sta Z Z.heap "java/lang/StringUTF16" "$assertionsDisabled" "Z" (.int (1 : Int32))) (SH : Sta Z Z.heap "java/lang/StringUTF16" "HI_BYTE_SHIFT" "I" (.int (0 : Int32))) (SL : Sta Z Z.heap "java/lang/StringUTF16" "LO_BYTE_SHIFT" "I" (.int (8 : Int32))) (fm : Value) (hfm : fm.isRef = true) (SF : Sta Z Z.heap "jdk/internal/util/Preconditions" "SIOOBE_FORMATTER" "Ljava/util/function/BiFunction;" fm) (p0 p1 p2 p3 p4 : Int32) (h0 : Heap) (n0 : Nat)  :
    Ct l Z consts_1 tables_1 x code maxLocals ret room_1 #[(.int p0), (.int p1), (.int p2), (.int p3), (.int p4)] h0 n0 [] (fun v _ => v = some (.int 1)) := by
  have w : ∀ {d : Jvm.Cond} (i : Nat), tables_1[i]? = some d → d.before a0 Z = true := fun i q => hw _ (List.mem_of_getElem? q)
  refine Ct.enter (plainFor_of_name pn_3) hEL ?_
  intro p e sS m below meth c T0 hby hml0 hret hlk hnm hs0 X0
  have hml : c.maxLocals = 14 := hml0
  have D : ∀ {pc : Nat} {r : Except DecodeError (Instr × Nat)}, decode code pc = r → decode c.code pc = r := fun q => hb hby q
  rw [show entryFrame m #[(.int p0), (.int p1), (.int p2), (.int p3), (.int p4)] maxLocals = mkF m 0 #[.val (.int p0), .val (.int p1), .val (.int p2), .val (.int p3), .val (.int p4), .unset, .unset, .unset, .unset, .unset, .unset, .unset, .unset, .unset] [] from by first | (simp [entryFrame, mkF, argsToLocals, Value.category, maxLocals]; done) | rfl]
  refine X0.iloadN (x := p0) (D at_0) rfl ?_
  refine X0.ldcI (w 0 rfl) (D at_1) ?_
  refine X0.iand (D at_3) ?_
  refine X0.iconst (x := (5 : Int32)) (D at_4) rfl ?_
  refine X0.irem (D at_5) (by decide) ?_
  refine X0.istore #[.val (.int p0), .val (.int p1), .val (.int p2), .val (.int p3), .val (.int p4), .val (.int ((p0 &&& (2147483647 : Int32)) % (5 : Int32))), .unset, .unset, .unset, .unset, .unset, .unset, .unset, .unset] (D at_6) rfl ?_
  refine X0.iloadN (x := p1) (D at_8) rfl ?_
  show Goes p.tables e below _ (T0.setTop (mkF m 9 #[.val (.int p0), .val (.int p1), .val (.int p2), .val (.int p3), .val (.int p4), .val (.int ((p0 &&& (2147483647 : Int32)) % (5 : Int32))), .unset, .unset, .unset, .unset, .unset, .unset, .unset, .unset] [(.int p1)]))
  refine X0.calls [(.int p1)] [] (ctDr l Z a0 hw hEL z0 S0 hz0 p1 _ _) (w 1 rfl) (w 2 rfl) (w 3 rfl) (w 4 rfl) (by decide) (fun _ q => nomatch q) (by decide) 0 (by decide) (by decide) (by decide) (lenOf pd_15 rfl) rfl (leb rfl) (by rw [hml]; rfl) (D at_9) ?_
  rintro T2826 h2827 _ X2829 K2830 ⟨c0, rfl, r0⟩
  show Goes p.tables e below _ (T2826.setTop (mkF m 12 #[.val (.int p0), .val (.int p1), .val (.int p2), .val (.int p3), .val (.int p4), .val (.int ((p0 &&& (2147483647 : Int32)) % (5 : Int32))), .unset, .unset, .unset, .unset, .unset, .unset, .unset, .unset] [(.int c0)]))
  refine X2829.istore #[.val (.int p0), .val (.int p1), .val (.int p2), .val (.int p3), .val (.int p4), .val (.int ((p0 &&& (2147483647 : Int32)) % (5 : Int32))), .val (.int c0), .unset, .unset, .unset, .unset, .unset, .unset, .unset] (D at_12) rfl ?_
  refine X2829.iloadN (x := p2) (D at_14) rfl ?_
  show Goes p.tables e below _ (T2826.setTop (mkF m 15 #[.val (.int p0), .val (.int p1), .val (.int p2), .val (.int p3), .val (.int p4), .val (.int ((p0 &&& (2147483647 : Int32)) % (5 : Int32))), .val (.int c0), .unset, .unset, .unset, .unset, .unset, .unset, .unset] [(.int p2)]))
  refine X2829.calls [(.int p2)] [] (ctDr l Z a0 hw hEL z0 S0 hz0 p2 _ _) (w 1 rfl) (w 2 rfl) (w 3 rfl) (w 4 rfl) (by decide) (fun _ q => nomatch q) (by decide) 0 (by decide) (by decide) (by decide) (lenOf pd_15 rfl) rfl (leb rfl) (by rw [hml]; rfl) (D at_15) ?_
  rintro T2831 h2832 _ X2834 K2835 ⟨c1, rfl, r1⟩
  show Goes p.tables e below _ (T2831.setTop (mkF m 18 #[.val (.int p0), .val (.int p1), .val (.int p2), .val (.int p3), .val (.int p4), .val (.int ((p0 &&& (2147483647 : Int32)) % (5 : Int32))), .val (.int c0), .unset, .unset, .unset, .unset, .unset, .unset, .unset] [(.int c1)]))
  refine X2834.istore #[.val (.int p0), .val (.int p1), .val (.int p2), .val (.int p3), .val (.int p4), .val (.int ((p0 &&& (2147483647 : Int32)) % (5 : Int32))), .val (.int c0), .val (.int c1), .unset, .unset, .unset, .unset, .unset, .unset] (D at_18) rfl ?_
  refine X2834.iloadN (x := p3) (D at_20) rfl ?_
  show Goes p.tables e below _ (T2831.setTop (mkF m 21 #[.val (.int p0), .val (.int p1), .val (.int p2), .val (.int p3), .val (.int p4), .val (.int ((p0 &&& (2147483647 : Int32)) % (5 : Int32))), .val (.int c0), .val (.int c1), .unset, .unset, .unset, .unset, .unset, .unset] [(.int p3)]))
  refine X2834.calls [(.int p3)] [] (ctDr l Z a0 hw hEL z0 S0 hz0 p3 _ _) (w 1 rfl) (w 2 rfl) (w 3 rfl) (w 4 rfl) (by decide) (fun _ q => nomatch q) (by decide) 0 (by decide) (by decide) (by decide) (lenOf pd_15 rfl) rfl (leb rfl) (by rw [hml]; rfl) (D at_21) ?_
  rintro T2836 h2837 _ X2839 K2840 ⟨c2, rfl, r2⟩
  show Goes p.tables e below _ (T2836.setTop (mkF m 24 #[.val (.int p0), .val (.int p1), .val (.int p2), .val (.int p3), .val (.int p4), .val (.int ((p0 &&& (2147483647 : Int32)) % (5 : Int32))), .val (.int c0), .val (.int c1), .unset, .unset, .unset, .unset, .unset, .unset] [(.int c2)]))
  refine X2839.istore #[.val (.int p0), .val (.int p1), .val (.int p2), .val (.int p3), .val (.int p4), .val (.int ((p0 &&& (2147483647 : Int32)) % (5 : Int32))), .val (.int c0), .val (.int c1), .val (.int c2), .unset, .unset, .unset, .unset, .unset] (D at_24) rfl ?_
  refine X2839.iload (x := p4) (D at_26) rfl ?_
  show Goes p.tables e below _ (T2836.setTop (mkF m 28 #[.val (.int p0), .val (.int p1), .val (.int p2), .val (.int p3), .val (.int p4), .val (.int ((p0 &&& (2147483647 : Int32)) % (5 : Int32))), .val (.int c0), .val (.int c1), .val (.int c2), .unset, .unset, .unset, .unset, .unset] [(.int p4)]))
  refine X2839.calls [(.int p4)] [] (ctDr l Z a0 hw hEL z0 S0 hz0 p4 _ _) (w 1 rfl) (w 2 rfl) (w 3 rfl) (w 4 rfl) (by decide) (fun _ q => nomatch q) (by decide) 0 (by decide) (by decide) (by decide) (lenOf pd_15 rfl) rfl (leb rfl) (by rw [hml]; rfl) (D at_28) ?_
  rintro T2841 h2842 _ X2844 K2845 ⟨c3, rfl, r3⟩
  show Goes p.tables e below _ (T2841.setTop (mkF m 31 #[.val (.int p0), .val (.int p1), .val (.int p2), .val (.int p3), .val (.int p4), .val (.int ((p0 &&& (2147483647 : Int32)) % (5 : Int32))), .val (.int c0), .val (.int c1), .val (.int c2), .unset, .unset, .unset, .unset, .unset] [(.int c3)]))
  refine X2844.istore #[.val (.int p0), .val (.int p1), .val (.int p2), .val (.int p3), .val (.int p4), .val (.int ((p0 &&& (2147483647 : Int32)) % (5 : Int32))), .val (.int c0), .val (.int c1), .val (.int c2), .val (.int c3), .unset, .unset, .unset, .unset] (D at_31) rfl ?_
  refine X2844.iload (x := ((p0 &&& (2147483647 : Int32)) % (5 : Int32))) (D at_33) rfl ?_
  refine X2844.iload (x := c0) (D at_35) rfl ?_
  refine X2844.iload (x := c1) (D at_37) rfl ?_
  refine X2844.iload (x := c2) (D at_39) rfl ?_
  refine X2844.iload (x := c3) (D at_41) rfl ?_
  show Goes p.tables e below _ (T2841.setTop (mkF m 43 #[.val (.int p0), .val (.int p1), .val (.int p2), .val (.int p3), .val (.int p4), .val (.int ((p0 &&& (2147483647 : Int32)) % (5 : Int32))), .val (.int c0), .val (.int c1), .val (.int c2), .val (.int c3), .unset, .unset, .unset, .unset] [(.int c3), (.int c2), (.int c1), (.int c0), (.int ((p0 &&& (2147483647 : Int32)) % (5 : Int32)))]))
  rcases rem5 p0 with hm | hm | hm | hm | hm
  · rw [hm]
    show Goes p.tables e below _ (T2841.setTop (mkF m 43 #[.val (.int p0), .val (.int p1), .val (.int p2), .val (.int p3), .val (.int p4), .val (.int (0 : Int32)), .val (.int c0), .val (.int c1), .val (.int c2), .val (.int c3), .unset, .unset, .unset, .unset] [(.int c3), (.int c2), (.int c1), (.int c0), (.int (0 : Int32))]))
    refine X2844.calls [(.int (0 : Int32)), (.int c0), (.int c1), (.int c2), (.int c3)] [] (ctMk0 l Z a0 hw hEL z0 S0 hz0 SA1 SH SL c0 c1 c2 c3 _ _ r0 r1 r2 r3) (w 5 rfl) (w 6 rfl) (w 3 rfl) (w 7 rfl) (by decide) (fun _ q => nomatch q) (by decide) 0 (by decide) (by decide) (by decide) (lenOf pd_17 rfl) rfl (leb rfl) (by rw [hml]; rfl) (D at_43) ?_
    rintro T2846 h2847 _ X2849 K2850 ⟨ss, rfl, W0⟩
    show Goes p.tables e below _ (T2846.setTop (mkF m 46 #[.val (.int p0), .val (.int p1), .val (.int p2), .val (.int p3), .val (.int p4), .val (.int (0 : Int32)), .val (.int c0), .val (.int c1), .val (.int c2), .val (.int c3), .unset, .unset, .unset, .unset] [(.ref ss)]))
    refine X2849.astore #[.val (.int p0), .val (.int p1), .val (.int p2), .val (.int p3), .val (.int p4), .val (.int (0 : Int32)), .val (.int c0), .val (.int c1), .val (.int c2), .val (.int c3), .val (.ref ss), .unset, .unset, .unset] (D at_46) rfl rfl ?_
    refine X2849.iload (x := (0 : Int32)) (D at_48) rfl ?_
    refine X2849.if_ne 59 (D at_50) ⟨by decide, by decide⟩ (fun hc2851 => absurd hc2851 (by decide)) (fun hc2851 => ?_)
    refine X2849.iconst (x := (0 : Int32)) (D at_53) rfl ?_
    refine X2849.istore #[.val (.int p0), .val (.int p1), .val (.int p2), .val (.int p3), .val (.int p4), .val (.int (0 : Int32)), .val (.int c0), .val (.int c1), .val (.int c2), .val (.int c3), .val (.ref ss), .val (.int (0 : Int32)), .unset, .unset] (D at_54) rfl ?_
    refine X2849.goto 179 (D at_56) ⟨by decide, by decide⟩ ?_
    refine X2849.aload (x := (.ref ss)) (D at_179) rfl rfl ?_
    refine X2849.calls [(.ref ss)] [] (ctIS0 l Z a0 hw hEL z0 S0 hz0 SA1 SH SL fm hfm SF ss  _ _ W0 ) (w 30 rfl) (w 31 rfl) (w 32 rfl) (w 33 rfl) (by decide) (fun _ q => nomatch q) (by decide) 0 (by decide) (by decide) (by decide) (lenOf pd_18 rfl) rfl (leb rfl) (by rw [hml]; rfl) (D at_181) ?_
    rintro T2853 h2854 _ X2856 K2857 (⟨rfl, hc2852⟩ | ⟨rfl, hc2852⟩)
    · have F2858 := W0.keep K2857
      show Goes p.tables e below _ (T2853.setTop (mkF m 184 #[.val (.int p0), .val (.int p1), .val (.int p2), .val (.int p3), .val (.int p4), .val (.int (0 : Int32)), .val (.int c0), .val (.int c1), .val (.int c2), .val (.int c3), .val (.ref ss), .val (.int (0 : Int32)), .unset, .unset] [(.int (1 : Int32))]))
      refine X2856.iload (x := (0 : Int32)) (D at_184) rfl ?_
      refine X2856.icmp_ne 193 (D at_186) ⟨by decide, by decide⟩ (fun hc2859 => ?_) (fun hc2859 => absurd hc2859 (by decide))
      refine X2856.iconst (x := (0 : Int32)) (D at_193) rfl ?_
      exact absurd hc2852 (fun q => q)
    · have F2858 := W0.keep K2857
      show Goes p.tables e below _ (T2853.setTop (mkF m 184 #[.val (.int p0), .val (.int p1), .val (.int p2), .val (.int p3), .val (.int p4), .val (.int (0 : Int32)), .val (.int c0), .val (.int c1), .val (.int c2), .val (.int c3), .val (.ref ss), .val (.int (0 : Int32)), .unset, .unset] [(.int (0 : Int32))]))
      refine X2856.iload (x := (0 : Int32)) (D at_184) rfl ?_
      refine X2856.icmp_ne 193 (D at_186) ⟨by decide, by decide⟩ (fun hc2860 => absurd hc2860 (by decide)) (fun hc2860 => ?_)
      refine X2856.iconst (x := (1 : Int32)) (D at_189) rfl ?_
      refine X2856.goto 194 (D at_190) ⟨by decide, by decide⟩ ?_
      exact X2856.reti hret (by simp) hlk (D at_194) (by decide) (by decide) (rfl)
  · rw [hm]
    show Goes p.tables e below _ (T2841.setTop (mkF m 43 #[.val (.int p0), .val (.int p1), .val (.int p2), .val (.int p3), .val (.int p4), .val (.int (1 : Int32)), .val (.int c0), .val (.int c1), .val (.int c2), .val (.int c3), .unset, .unset, .unset, .unset] [(.int c3), (.int c2), (.int c1), (.int c0), (.int (1 : Int32))]))
    refine X2844.calls [(.int (1 : Int32)), (.int c0), (.int c1), (.int c2), (.int c3)] [] (ctMk1 l Z a0 hw hEL z0 S0 hz0 SA1 SH SL c0 c1 c2 c3 _ _ r0 r1 r2 r3) (w 5 rfl) (w 6 rfl) (w 3 rfl) (w 7 rfl) (by decide) (fun _ q => nomatch q) (by decide) 0 (by decide) (by decide) (by decide) (lenOf pd_17 rfl) rfl (leb rfl) (by rw [hml]; rfl) (D at_43) ?_
    rintro T2861 h2862 _ X2864 K2865 ⟨ss, rfl, W0⟩
    show Goes p.tables e below _ (T2861.setTop (mkF m 46 #[.val (.int p0), .val (.int p1), .val (.int p2), .val (.int p3), .val (.int p4), .val (.int (1 : Int32)), .val (.int c0), .val (.int c1), .val (.int c2), .val (.int c3), .unset, .unset, .unset, .unset] [(.ref ss)]))
    refine X2864.astore #[.val (.int p0), .val (.int p1), .val (.int p2), .val (.int p3), .val (.int p4), .val (.int (1 : Int32)), .val (.int c0), .val (.int c1), .val (.int c2), .val (.int c3), .val (.ref ss), .unset, .unset, .unset] (D at_46) rfl rfl ?_
    refine X2864.iload (x := (1 : Int32)) (D at_48) rfl ?_
    refine X2864.if_ne 59 (D at_50) ⟨by decide, by decide⟩ (fun hc2866 => ?_) (fun hc2866 => absurd hc2866 (by decide))
    refine X2864.iload (x := (1 : Int32)) (D at_59) rfl ?_
    refine X2864.iconst (x := (1 : Int32)) (D at_61) rfl ?_
    refine X2864.icmp_ne 70 (D at_62) ⟨by decide, by decide⟩ (fun hc2867 => absurd hc2867 (by decide)) (fun hc2867 => ?_)
    refine X2864.iload (x := c0) (D at_65) rfl ?_
    refine X2864.goto 94 (D at_67) ⟨by decide, by decide⟩ ?_
    refine X2864.istore #[.val (.int p0), .val (.int p1), .val (.int p2), .val (.int p3), .val (.int p4), .val (.int (1 : Int32)), .val (.int c0), .val (.int c1), .val (.int c2), .val (.int c3), .val (.ref ss), .unset, .val (.int c0), .unset] (D at_94) rfl ?_
    refine X2864.iload (x := c0) (D at_96) rfl ?_
    refine X2864.calls [(.int c0)] [] (ctOk l Z a0 hw hEL z0 S0 hz0 c0 _ _) (w 50 rfl) (w 51 rfl) (w 3 rfl) (w 52 rfl) (by decide) (fun _ q => nomatch q) (by decide) 0 (by decide) (by decide) (by decide) (lenOf pd_19 rfl) rfl (leb rfl) (by rw [hml]; rfl) (D at_98) ?_
    rintro T2869 h2870 _ X2872 K2873 (⟨rfl, hc2868⟩ | ⟨rfl, hc2868⟩)
    · have F2874 := W0.keep K2873
      show Goes p.tables e below _ (T2869.setTop (mkF m 101 #[.val (.int p0), .val (.int p1), .val (.int p2), .val (.int p3), .val (.int p4), .val (.int (1 : Int32)), .val (.int c0), .val (.int c1), .val (.int c2), .val (.int c3), .val (.ref ss), .unset, .val (.int c0), .unset] [(.int (1 : Int32))]))
      refine X2872.if_eq 150 (D at_101) ⟨by decide, by decide⟩ (fun hc2886 => absurd hc2886 (by decide)) (fun hc2886 => ?_)
      refine X2872.iload (x := (1 : Int32)) (D at_104) rfl ?_
      refine X2872.iconst (x := (2 : Int32)) (D at_106) rfl ?_
      refine X2872.icmp_lt 118 (D at_107) ⟨by decide, by decide⟩ (fun hc2887 => ?_) (fun hc2887 => absurd hc2887 (by decide))
      refine X2872.iload (x := (1 : Int32)) (D at_118) rfl ?_
      refine X2872.iconst (x := (3 : Int32)) (D at_120) rfl ?_
      refine X2872.icmp_lt 132 (D at_121) ⟨by decide, by decide⟩ (fun hc2888 => ?_) (fun hc2888 => absurd hc2888 (by decide))
      refine X2872.iload (x := (1 : Int32)) (D at_132) rfl ?_
      refine X2872.iconst (x := (4 : Int32)) (D at_134) rfl ?_
      refine X2872.icmp_lt 146 (D at_135) ⟨by decide, by decide⟩ (fun hc2889 => ?_) (fun hc2889 => absurd hc2889 (by decide))
      refine X2872.iconst (x := (1 : Int32)) (D at_146) rfl ?_
      refine X2872.goto 151 (D at_147) ⟨by decide, by decide⟩ ?_
      refine X2872.istore #[.val (.int p0), .val (.int p1), .val (.int p2), .val (.int p3), .val (.int p4), .val (.int (1 : Int32)), .val (.int c0), .val (.int c1), .val (.int c2), .val (.int c3), .val (.ref ss), .unset, .val (.int c0), .val (.int (1 : Int32))] (D at_151) rfl ?_
      refine X2872.iload (x := (1 : Int32)) (D at_153) rfl ?_
      refine X2872.if_eq 176 (D at_155) ⟨by decide, by decide⟩ (fun hc2890 => absurd hc2890 (by decide)) (fun hc2890 => ?_)
      refine X2872.iload (x := c0) (D at_158) rfl ?_
      refine X2872.bipush (x := (32 : Int32)) (D at_160) rfl ?_
      show Goes p.tables e below _ (T2869.setTop (mkF m 162 #[.val (.int p0), .val (.int p1), .val (.int p2), .val (.int p3), .val (.int p4), .val (.int (1 : Int32)), .val (.int c0), .val (.int c1), .val (.int c2), .val (.int c3), .val (.ref ss), .unset, .val (.int c0), .val (.int (1 : Int32))] [(.int (32 : Int32)), (.int c0)]))
      refine X2872.icmp_eq 176 (D at_162) ⟨by decide, by decide⟩ (fun hc2891 => ?_) (fun hc2891 => ?_)
      · refine X2872.iconst (x := (0 : Int32)) (D at_176) rfl ?_
        refine X2872.istore #[.val (.int p0), .val (.int p1), .val (.int p2), .val (.int p3), .val (.int p4), .val (.int (1 : Int32)), .val (.int c0), .val (.int c1), .val (.int c2), .val (.int c3), .val (.ref ss), .val (.int (0 : Int32)), .val (.int c0), .val (.int (1 : Int32))] (D at_177) rfl ?_
        refine X2872.aload (x := (.ref ss)) (D at_179) rfl rfl ?_
        refine X2872.calls [(.ref ss)] [] (ctIS1 l Z a0 hw hEL z0 S0 hz0 SA1 SH SL fm hfm SF ss c0 _ _ F2874 r0) (w 30 rfl) (w 31 rfl) (w 32 rfl) (w 33 rfl) (by decide) (fun _ q => nomatch q) (by decide) 0 (by decide) (by decide) (by decide) (lenOf pd_18 rfl) rfl (leb rfl) (by rw [hml]; rfl) (D at_181) ?_
        rintro T2893 h2894 _ X2896 K2897 (⟨rfl, hc2892⟩ | ⟨rfl, hc2892⟩)
        · have F2898 := F2874.keep K2897
          show Goes p.tables e below _ (T2893.setTop (mkF m 184 #[.val (.int p0), .val (.int p1), .val (.int p2), .val (.int p3), .val (.int p4), .val (.int (1 : Int32)), .val (.int c0), .val (.int c1), .val (.int c2), .val (.int c3), .val (.ref ss), .val (.int (0 : Int32)), .val (.int c0), .val (.int (1 : Int32))] [(.int (1 : Int32))]))
          refine X2896.iload (x := (0 : Int32)) (D at_184) rfl ?_
          refine X2896.icmp_ne 193 (D at_186) ⟨by decide, by decide⟩ (fun hc2899 => ?_) (fun hc2899 => absurd hc2899 (by decide))
          refine X2896.iconst (x := (0 : Int32)) (D at_193) rfl ?_
          exact absurd hc2892 (fun q => q.1 hc2891)
        · have F2898 := F2874.keep K2897
          show Goes p.tables e below _ (T2893.setTop (mkF m 184 #[.val (.int p0), .val (.int p1), .val (.int p2), .val (.int p3), .val (.int p4), .val (.int (1 : Int32)), .val (.int c0), .val (.int c1), .val (.int c2), .val (.int c3), .val (.ref ss), .val (.int (0 : Int32)), .val (.int c0), .val (.int (1 : Int32))] [(.int (0 : Int32))]))
          refine X2896.iload (x := (0 : Int32)) (D at_184) rfl ?_
          refine X2896.icmp_ne 193 (D at_186) ⟨by decide, by decide⟩ (fun hc2900 => absurd hc2900 (by decide)) (fun hc2900 => ?_)
          refine X2896.iconst (x := (1 : Int32)) (D at_189) rfl ?_
          refine X2896.goto 194 (D at_190) ⟨by decide, by decide⟩ ?_
          exact X2896.reti hret (by simp) hlk (D at_194) (by decide) (by decide) (rfl)
      · refine X2872.iload (x := c0) (D at_165) rfl ?_
        refine X2872.bipush (x := (32 : Int32)) (D at_167) rfl ?_
        refine X2872.icmp_eq 176 (D at_169) ⟨by decide, by decide⟩ (fun hc2901 => ?_) (fun hc2901 => ?_)
        · refine X2872.iconst (x := (0 : Int32)) (D at_176) rfl ?_
          refine X2872.istore #[.val (.int p0), .val (.int p1), .val (.int p2), .val (.int p3), .val (.int p4), .val (.int (1 : Int32)), .val (.int c0), .val (.int c1), .val (.int c2), .val (.int c3), .val (.ref ss), .val (.int (0 : Int32)), .val (.int c0), .val (.int (1 : Int32))] (D at_177) rfl ?_
          refine X2872.aload (x := (.ref ss)) (D at_179) rfl rfl ?_
          refine X2872.calls [(.ref ss)] [] (ctIS1 l Z a0 hw hEL z0 S0 hz0 SA1 SH SL fm hfm SF ss c0 _ _ F2874 r0) (w 30 rfl) (w 31 rfl) (w 32 rfl) (w 33 rfl) (by decide) (fun _ q => nomatch q) (by decide) 0 (by decide) (by decide) (by decide) (lenOf pd_18 rfl) rfl (leb rfl) (by rw [hml]; rfl) (D at_181) ?_
          rintro T2903 h2904 _ X2906 K2907 (⟨rfl, hc2902⟩ | ⟨rfl, hc2902⟩)
          · have F2908 := F2874.keep K2907
            show Goes p.tables e below _ (T2903.setTop (mkF m 184 #[.val (.int p0), .val (.int p1), .val (.int p2), .val (.int p3), .val (.int p4), .val (.int (1 : Int32)), .val (.int c0), .val (.int c1), .val (.int c2), .val (.int c3), .val (.ref ss), .val (.int (0 : Int32)), .val (.int c0), .val (.int (1 : Int32))] [(.int (1 : Int32))]))
            refine X2906.iload (x := (0 : Int32)) (D at_184) rfl ?_
            refine X2906.icmp_ne 193 (D at_186) ⟨by decide, by decide⟩ (fun hc2909 => ?_) (fun hc2909 => absurd hc2909 (by decide))
            refine X2906.iconst (x := (0 : Int32)) (D at_193) rfl ?_
            exact absurd hc2902 (fun q => q.2.1 hc2901)
          · have F2908 := F2874.keep K2907
            show Goes p.tables e below _ (T2903.setTop (mkF m 184 #[.val (.int p0), .val (.int p1), .val (.int p2), .val (.int p3), .val (.int p4), .val (.int (1 : Int32)), .val (.int c0), .val (.int c1), .val (.int c2), .val (.int c3), .val (.ref ss), .val (.int (0 : Int32)), .val (.int c0), .val (.int (1 : Int32))] [(.int (0 : Int32))]))
            refine X2906.iload (x := (0 : Int32)) (D at_184) rfl ?_
            refine X2906.icmp_ne 193 (D at_186) ⟨by decide, by decide⟩ (fun hc2910 => absurd hc2910 (by decide)) (fun hc2910 => ?_)
            refine X2906.iconst (x := (1 : Int32)) (D at_189) rfl ?_
            refine X2906.goto 194 (D at_190) ⟨by decide, by decide⟩ ?_
            exact X2906.reti hret (by simp) hlk (D at_194) (by decide) (by decide) (rfl)
        · refine X2872.iconst (x := (1 : Int32)) (D at_172) rfl ?_
          refine X2872.goto 177 (D at_173) ⟨by decide, by decide⟩ ?_
          refine X2872.istore #[.val (.int p0), .val (.int p1), .val (.int p2), .val (.int p3), .val (.int p4), .val (.int (1 : Int32)), .val (.int c0), .val (.int c1), .val (.int c2), .val (.int c3), .val (.ref ss), .val (.int (1 : Int32)), .val (.int c0), .val (.int (1 : Int32))] (D at_177) rfl ?_
          refine X2872.aload (x := (.ref ss)) (D at_179) rfl rfl ?_
          refine X2872.calls [(.ref ss)] [] (ctIS1 l Z a0 hw hEL z0 S0 hz0 SA1 SH SL fm hfm SF ss c0 _ _ F2874 r0) (w 30 rfl) (w 31 rfl) (w 32 rfl) (w 33 rfl) (by decide) (fun _ q => nomatch q) (by decide) 0 (by decide) (by decide) (by decide) (lenOf pd_18 rfl) rfl (leb rfl) (by rw [hml]; rfl) (D at_181) ?_
          rintro T2912 h2913 _ X2915 K2916 (⟨rfl, hc2911⟩ | ⟨rfl, hc2911⟩)
          · have F2917 := F2874.keep K2916
            show Goes p.tables e below _ (T2912.setTop (mkF m 184 #[.val (.int p0), .val (.int p1), .val (.int p2), .val (.int p3), .val (.int p4), .val (.int (1 : Int32)), .val (.int c0), .val (.int c1), .val (.int c2), .val (.int c3), .val (.ref ss), .val (.int (1 : Int32)), .val (.int c0), .val (.int (1 : Int32))] [(.int (1 : Int32))]))
            refine X2915.iload (x := (1 : Int32)) (D at_184) rfl ?_
            refine X2915.icmp_ne 193 (D at_186) ⟨by decide, by decide⟩ (fun hc2918 => absurd hc2918 (by decide)) (fun hc2918 => ?_)
            refine X2915.iconst (x := (1 : Int32)) (D at_189) rfl ?_
            refine X2915.goto 194 (D at_190) ⟨by decide, by decide⟩ ?_
            exact X2915.reti hret (by simp) hlk (D at_194) (by decide) (by decide) (rfl)
          · have F2917 := F2874.keep K2916
            show Goes p.tables e below _ (T2912.setTop (mkF m 184 #[.val (.int p0), .val (.int p1), .val (.int p2), .val (.int p3), .val (.int p4), .val (.int (1 : Int32)), .val (.int c0), .val (.int c1), .val (.int c2), .val (.int c3), .val (.ref ss), .val (.int (1 : Int32)), .val (.int c0), .val (.int (1 : Int32))] [(.int (0 : Int32))]))
            refine X2915.iload (x := (1 : Int32)) (D at_184) rfl ?_
            refine X2915.icmp_ne 193 (D at_186) ⟨by decide, by decide⟩ (fun hc2919 => ?_) (fun hc2919 => absurd hc2919 (by decide))
            refine X2915.iconst (x := (0 : Int32)) (D at_193) rfl ?_
            exact (hc2911 (⟨hc2891, hc2901, hc2868⟩)).elim
    · have F2874 := W0.keep K2873
      show Goes p.tables e below _ (T2869.setTop (mkF m 101 #[.val (.int p0), .val (.int p1), .val (.int p2), .val (.int p3), .val (.int p4), .val (.int (1 : Int32)), .val (.int c0), .val (.int c1), .val (.int c2), .val (.int c3), .val (.ref ss), .unset, .val (.int c0), .unset] [(.int (0 : Int32))]))
      refine X2872.if_eq 150 (D at_101) ⟨by decide, by decide⟩ (fun hc2875 => ?_) (fun hc2875 => absurd hc2875 (by decide))
      refine X2872.iconst (x := (0 : Int32)) (D at_150) rfl ?_
      refine X2872.istore #[.val (.int p0), .val (.int p1), .val (.int p2), .val (.int p3), .val (.int p4), .val (.int (1 : Int32)), .val (.int c0), .val (.int c1), .val (.int c2), .val (.int c3), .val (.ref ss), .unset, .val (.int c0), .val (.int (0 : Int32))] (D at_151) rfl ?_
      refine X2872.iload (x := (0 : Int32)) (D at_153) rfl ?_
      refine X2872.if_eq 176 (D at_155) ⟨by decide, by decide⟩ (fun hc2876 => ?_) (fun hc2876 => absurd hc2876 (by decide))
      refine X2872.iconst (x := (0 : Int32)) (D at_176) rfl ?_
      refine X2872.istore #[.val (.int p0), .val (.int p1), .val (.int p2), .val (.int p3), .val (.int p4), .val (.int (1 : Int32)), .val (.int c0), .val (.int c1), .val (.int c2), .val (.int c3), .val (.ref ss), .val (.int (0 : Int32)), .val (.int c0), .val (.int (0 : Int32))] (D at_177) rfl ?_
      refine X2872.aload (x := (.ref ss)) (D at_179) rfl rfl ?_
      refine X2872.calls [(.ref ss)] [] (ctIS1 l Z a0 hw hEL z0 S0 hz0 SA1 SH SL fm hfm SF ss c0 _ _ F2874 r0) (w 30 rfl) (w 31 rfl) (w 32 rfl) (w 33 rfl) (by decide) (fun _ q => nomatch q) (by decide) 0 (by decide) (by decide) (by decide) (lenOf pd_18 rfl) rfl (leb rfl) (by rw [hml]; rfl) (D at_181) ?_
      rintro T2878 h2879 _ X2881 K2882 (⟨rfl, hc2877⟩ | ⟨rfl, hc2877⟩)
      · have F2883 := F2874.keep K2882
        show Goes p.tables e below _ (T2878.setTop (mkF m 184 #[.val (.int p0), .val (.int p1), .val (.int p2), .val (.int p3), .val (.int p4), .val (.int (1 : Int32)), .val (.int c0), .val (.int c1), .val (.int c2), .val (.int c3), .val (.ref ss), .val (.int (0 : Int32)), .val (.int c0), .val (.int (0 : Int32))] [(.int (1 : Int32))]))
        refine X2881.iload (x := (0 : Int32)) (D at_184) rfl ?_
        refine X2881.icmp_ne 193 (D at_186) ⟨by decide, by decide⟩ (fun hc2884 => ?_) (fun hc2884 => absurd hc2884 (by decide))
        refine X2881.iconst (x := (0 : Int32)) (D at_193) rfl ?_
        exact absurd hc2877 (fun q => hc2868 (q.2.2))
      · have F2883 := F2874.keep K2882
        show Goes p.tables e below _ (T2878.setTop (mkF m 184 #[.val (.int p0), .val (.int p1), .val (.int p2), .val (.int p3), .val (.int p4), .val (.int (1 : Int32)), .val (.int c0), .val (.int c1), .val (.int c2), .val (.int c3), .val (.ref ss), .val (.int (0 : Int32)), .val (.int c0), .val (.int (0 : Int32))] [(.int (0 : Int32))]))
        refine X2881.iload (x := (0 : Int32)) (D at_184) rfl ?_
        refine X2881.icmp_ne 193 (D at_186) ⟨by decide, by decide⟩ (fun hc2885 => absurd hc2885 (by decide)) (fun hc2885 => ?_)
        refine X2881.iconst (x := (1 : Int32)) (D at_189) rfl ?_
        refine X2881.goto 194 (D at_190) ⟨by decide, by decide⟩ ?_
        exact X2881.reti hret (by simp) hlk (D at_194) (by decide) (by decide) (rfl)
  · rw [hm]
    show Goes p.tables e below _ (T2841.setTop (mkF m 43 #[.val (.int p0), .val (.int p1), .val (.int p2), .val (.int p3), .val (.int p4), .val (.int (2 : Int32)), .val (.int c0), .val (.int c1), .val (.int c2), .val (.int c3), .unset, .unset, .unset, .unset] [(.int c3), (.int c2), (.int c1), (.int c0), (.int (2 : Int32))]))
    refine X2844.calls [(.int (2 : Int32)), (.int c0), (.int c1), (.int c2), (.int c3)] [] (ctMk2 l Z a0 hw hEL z0 S0 hz0 SA1 SH SL c0 c1 c2 c3 _ _ r0 r1 r2 r3) (w 5 rfl) (w 6 rfl) (w 3 rfl) (w 7 rfl) (by decide) (fun _ q => nomatch q) (by decide) 0 (by decide) (by decide) (by decide) (lenOf pd_17 rfl) rfl (leb rfl) (by rw [hml]; rfl) (D at_43) ?_
    rintro T2920 h2921 _ X2923 K2924 ⟨ss, rfl, W0⟩
    show Goes p.tables e below _ (T2920.setTop (mkF m 46 #[.val (.int p0), .val (.int p1), .val (.int p2), .val (.int p3), .val (.int p4), .val (.int (2 : Int32)), .val (.int c0), .val (.int c1), .val (.int c2), .val (.int c3), .unset, .unset, .unset, .unset] [(.ref ss)]))
    refine X2923.astore #[.val (.int p0), .val (.int p1), .val (.int p2), .val (.int p3), .val (.int p4), .val (.int (2 : Int32)), .val (.int c0), .val (.int c1), .val (.int c2), .val (.int c3), .val (.ref ss), .unset, .unset, .unset] (D at_46) rfl rfl ?_
    refine X2923.iload (x := (2 : Int32)) (D at_48) rfl ?_
    refine X2923.if_ne 59 (D at_50) ⟨by decide, by decide⟩ (fun hc2925 => ?_) (fun hc2925 => absurd hc2925 (by decide))
    refine X2923.iload (x := (2 : Int32)) (D at_59) rfl ?_
    refine X2923.iconst (x := (1 : Int32)) (D at_61) rfl ?_
    refine X2923.icmp_ne 70 (D at_62) ⟨by decide, by decide⟩ (fun hc2926 => ?_) (fun hc2926 => absurd hc2926 (by decide))
    refine X2923.iload (x := (2 : Int32)) (D at_70) rfl ?_
    refine X2923.iconst (x := (2 : Int32)) (D at_72) rfl ?_
    refine X2923.icmp_ne 81 (D at_73) ⟨by decide, by decide⟩ (fun hc2927 => absurd hc2927 (by decide)) (fun hc2927 => ?_)
    refine X2923.iload (x := c1) (D at_76) rfl ?_
    refine X2923.goto 94 (D at_78) ⟨by decide, by decide⟩ ?_
    refine X2923.istore #[.val (.int p0), .val (.int p1), .val (.int p2), .val (.int p3), .val (.int p4), .val (.int (2 : Int32)), .val (.int c0), .val (.int c1), .val (.int c2), .val (.int c3), .val (.ref ss), .unset, .val (.int c1), .unset] (D at_94) rfl ?_
    refine X2923.iload (x := c0) (D at_96) rfl ?_
    refine X2923.calls [(.int c0)] [] (ctOk l Z a0 hw hEL z0 S0 hz0 c0 _ _) (w 50 rfl) (w 51 rfl) (w 3 rfl) (w 52 rfl) (by decide) (fun _ q => nomatch q) (by decide) 0 (by decide) (by decide) (by decide) (lenOf pd_19 rfl) rfl (leb rfl) (by rw [hml]; rfl) (D at_98) ?_
    rintro T2929 h2930 _ X2932 K2933 (⟨rfl, hc2928⟩ | ⟨rfl, hc2928⟩)
    · have F2934 := W0.keep K2933
      show Goes p.tables e below _ (T2929.setTop (mkF m 101 #[.val (.int p0), .val (.int p1), .val (.int p2), .val (.int p3), .val (.int p4), .val (.int (2 : Int32)), .val (.int c0), .val (.int c1), .val (.int c2), .val (.int c3), .val (.ref ss), .unset, .val (.int c1), .unset] [(.int (1 : Int32))]))
      refine X2932.if_eq 150 (D at_101) ⟨by decide, by decide⟩ (fun hc2946 => absurd hc2946 (by decide)) (fun hc2946 => ?_)
      refine X2932.iload (x := (2 : Int32)) (D at_104) rfl ?_
      refine X2932.iconst (x := (2 : Int32)) (D at_106) rfl ?_
      refine X2932.icmp_lt 118 (D at_107) ⟨by decide, by decide⟩ (fun hc2947 => absurd hc2947 (by decide)) (fun hc2947 => ?_)
      refine X2932.iload (x := c1) (D at_110) rfl ?_
      refine X2932.calls [(.int c1)] [] (ctOk l Z a0 hw hEL z0 S0 hz0 c1 _ _) (w 50 rfl) (w 51 rfl) (w 3 rfl) (w 52 rfl) (by decide) (fun _ q => nomatch q) (by decide) 0 (by decide) (by decide) (by decide) (lenOf pd_19 rfl) rfl (leb rfl) (by rw [hml]; rfl) (D at_112) ?_
      rintro T2949 h2950 _ X2952 K2953 (⟨rfl, hc2948⟩ | ⟨rfl, hc2948⟩)
      · have F2954 := F2934.keep K2953
        show Goes p.tables e below _ (T2949.setTop (mkF m 115 #[.val (.int p0), .val (.int p1), .val (.int p2), .val (.int p3), .val (.int p4), .val (.int (2 : Int32)), .val (.int c0), .val (.int c1), .val (.int c2), .val (.int c3), .val (.ref ss), .unset, .val (.int c1), .unset] [(.int (1 : Int32))]))
        refine X2952.if_eq 150 (D at_115) ⟨by decide, by decide⟩ (fun hc2966 => absurd hc2966 (by decide)) (fun hc2966 => ?_)
        refine X2952.iload (x := (2 : Int32)) (D at_118) rfl ?_
        refine X2952.iconst (x := (3 : Int32)) (D at_120) rfl ?_
        refine X2952.icmp_lt 132 (D at_121) ⟨by decide, by decide⟩ (fun hc2967 => ?_) (fun hc2967 => absurd hc2967 (by decide))
        refine X2952.iload (x := (2 : Int32)) (D at_132) rfl ?_
        refine X2952.iconst (x := (4 : Int32)) (D at_134) rfl ?_
        refine X2952.icmp_lt 146 (D at_135) ⟨by decide, by decide⟩ (fun hc2968 => ?_) (fun hc2968 => absurd hc2968 (by decide))
        refine X2952.iconst (x := (1 : Int32)) (D at_146) rfl ?_
        refine X2952.goto 151 (D at_147) ⟨by decide, by decide⟩ ?_
        refine X2952.istore #[.val (.int p0), .val (.int p1), .val (.int p2), .val (.int p3), .val (.int p4), .val (.int (2 : Int32)), .val (.int c0), .val (.int c1), .val (.int c2), .val (.int c3), .val (.ref ss), .unset, .val (.int c1), .val (.int (1 : Int32))] (D at_151) rfl ?_
        refine X2952.iload (x := (1 : Int32)) (D at_153) rfl ?_
        refine X2952.if_eq 176 (D at_155) ⟨by decide, by decide⟩ (fun hc2969 => absurd hc2969 (by decide)) (fun hc2969 => ?_)
        refine X2952.iload (x := c0) (D at_158) rfl ?_
        refine X2952.bipush (x := (32 : Int32)) (D at_160) rfl ?_
        refine X2952.icmp_eq 176 (D at_162) ⟨by decide, by decide⟩ (fun hc2970 => ?_) (fun hc2970 => ?_)
        · show Goes p.tables e below _ (T2949.setTop (mkF m 176 #[.val (.int p0), .val (.int p1), .val (.int p2), .val (.int p3), .val (.int p4), .val (.int (2 : Int32)), .val (.int c0), .val (.int c1), .val (.int c2), .val (.int c3), .val (.ref ss), .unset, .val (.int c1), .val (.int (1 : Int32))] []))
          refine X2952.iconst (x := (0 : Int32)) (D at_176) rfl ?_
          refine X2952.istore #[.val (.int p0), .val (.int p1), .val (.int p2), .val (.int p3), .val (.int p4), .val (.int (2 : Int32)), .val (.int c0), .val (.int c1), .val (.int c2), .val (.int c3), .val (.ref ss), .val (.int (0 : Int32)), .val (.int c1), .val (.int (1 : Int32))] (D at_177) rfl ?_
          refine X2952.aload (x := (.ref ss)) (D at_179) rfl rfl ?_
          refine X2952.calls [(.ref ss)] [] (ctIS2 l Z a0 hw hEL z0 S0 hz0 SA1 SH SL fm hfm SF ss c0 c1 _ _ F2954 r0 r1) (w 30 rfl) (w 31 rfl) (w 32 rfl) (w 33 rfl) (by decide) (fun _ q => nomatch q) (by decide) 0 (by decide) (by decide) (by decide) (lenOf pd_18 rfl) rfl (leb rfl) (by rw [hml]; rfl) (D at_181) ?_
          rintro T2972 h2973 _ X2975 K2976 (⟨rfl, hc2971⟩ | ⟨rfl, hc2971⟩)
          · have F2977 := F2954.keep K2976
            show Goes p.tables e below _ (T2972.setTop (mkF m 184 #[.val (.int p0), .val (.int p1), .val (.int p2), .val (.int p3), .val (.int p4), .val (.int (2 : Int32)), .val (.int c0), .val (.int c1), .val (.int c2), .val (.int c3), .val (.ref ss), .val (.int (0 : Int32)), .val (.int c1), .val (.int (1 : Int32))] [(.int (1 : Int32))]))
            refine X2975.iload (x := (0 : Int32)) (D at_184) rfl ?_
            refine X2975.icmp_ne 193 (D at_186) ⟨by decide, by decide⟩ (fun hc2978 => ?_) (fun hc2978 => absurd hc2978 (by decide))
            refine X2975.iconst (x := (0 : Int32)) (D at_193) rfl ?_
            exact absurd hc2971 (fun q => q.1 hc2970)
          · have F2977 := F2954.keep K2976
            show Goes p.tables e below _ (T2972.setTop (mkF m 184 #[.val (.int p0), .val (.int p1), .val (.int p2), .val (.int p3), .val (.int p4), .val (.int (2 : Int32)), .val (.int c0), .val (.int c1), .val (.int c2), .val (.int c3), .val (.ref ss), .val (.int (0 : Int32)), .val (.int c1), .val (.int (1 : Int32))] [(.int (0 : Int32))]))
            refine X2975.iload (x := (0 : Int32)) (D at_184) rfl ?_
            refine X2975.icmp_ne 193 (D at_186) ⟨by decide, by decide⟩ (fun hc2979 => absurd hc2979 (by decide)) (fun hc2979 => ?_)
            refine X2975.iconst (x := (1 : Int32)) (D at_189) rfl ?_
            refine X2975.goto 194 (D at_190) ⟨by decide, by decide⟩ ?_
            exact X2975.reti hret (by simp) hlk (D at_194) (by decide) (by decide) (rfl)
        · show Goes p.tables e below _ (T2949.setTop (mkF m 165 #[.val (.int p0), .val (.int p1), .val (.int p2), .val (.int p3), .val (.int p4), .val (.int (2 : Int32)), .val (.int c0), .val (.int c1), .val (.int c2), .val (.int c3), .val (.ref ss), .unset, .val (.int c1), .val (.int (1 : Int32))] []))
          refine X2952.iload (x := c1) (D at_165) rfl ?_
          refine X2952.bipush (x := (32 : Int32)) (D at_167) rfl ?_
          refine X2952.icmp_eq 176 (D at_169) ⟨by decide, by decide⟩ (fun hc2980 => ?_) (fun hc2980 => ?_)
          · refine X2952.iconst (x := (0 : Int32)) (D at_176) rfl ?_
            refine X2952.istore #[.val (.int p0), .val (.int p1), .val (.int p2), .val (.int p3), .val (.int p4), .val (.int (2 : Int32)), .val (.int c0), .val (.int c1), .val (.int c2), .val (.int c3), .val (.ref ss), .val (.int (0 : Int32)), .val (.int c1), .val (.int (1 : Int32))] (D at_177) rfl ?_
            refine X2952.aload (x := (.ref ss)) (D at_179) rfl rfl ?_
            refine X2952.calls [(.ref ss)] [] (ctIS2 l Z a0 hw hEL z0 S0 hz0 SA1 SH SL fm hfm SF ss c0 c1 _ _ F2954 r0 r1) (w 30 rfl) (w 31 rfl) (w 32 rfl) (w 33 rfl) (by decide) (fun _ q => nomatch q) (by decide) 0 (by decide) (by decide) (by decide) (lenOf pd_18 rfl) rfl (leb rfl) (by rw [hml]; rfl) (D at_181) ?_
            rintro T2982 h2983 _ X2985 K2986 (⟨rfl, hc2981⟩ | ⟨rfl, hc2981⟩)
            · have F2987 := F2954.keep K2986
              show Goes p.tables e below _ (T2982.setTop (mkF m 184 #[.val (.int p0), .val (.int p1), .val (.int p2), .val (.int p3), .val (.int p4), .val (.int (2 : Int32)), .val (.int c0), .val (.int c1), .val (.int c2), .val (.int c3), .val (.ref ss), .val (.int (0 : Int32)), .val (.int c1), .val (.int (1 : Int32))] [(.int (1 : Int32))]))
              refine X2985.iload (x := (0 : Int32)) (D at_184) rfl ?_
              refine X2985.icmp_ne 193 (D at_186) ⟨by decide, by decide⟩ (fun hc2988 => ?_) (fun hc2988 => absurd hc2988 (by decide))
              refine X2985.iconst (x := (0 : Int32)) (D at_193) rfl ?_
              exact absurd hc2981 (fun q => q.2.1 hc2980)
            · have F2987 := F2954.keep K2986
              show Goes p.tables e below _ (T2982.setTop (mkF m 184 #[.val (.int p0), .val (.int p1), .val (.int p2), .val (.int p3), .val (.int p4), .val (.int (2 : Int32)), .val (.int c0), .val (.int c1), .val (.int c2), .val (.int c3), .val (.ref ss), .val (.int (0 : Int32)), .val (.int c1), .val (.int (1 : Int32))] [(.int (0 : Int32))]))
              refine X2985.iload (x := (0 : Int32)) (D at_184) rfl ?_
              refine X2985.icmp_ne 193 (D at_186) ⟨by decide, by decide⟩ (fun hc2989 => absurd hc2989 (by decide)) (fun hc2989 => ?_)
              refine X2985.iconst (x := (1 : Int32)) (D at_189) rfl ?_
              refine X2985.goto 194 (D at_190) ⟨by decide, by decide⟩ ?_
              exact X2985.reti hret (by simp) hlk (D at_194) (by decide) (by decide) (rfl)
          · refine X2952.iconst (x := (1 : Int32)) (D at_172) rfl ?_
            refine X2952.goto 177 (D at_173) ⟨by decide, by decide⟩ ?_
            refine X2952.istore #[.val (.int p0), .val (.int p1), .val (.int p2), .val (.int p3), .val (.int p4), .val (.int (2 : Int32)), .val (.int c0), .val (.int c1), .val (.int c2), .val (.int c3), .val (.ref ss), .val (.int (1 : Int32)), .val (.int c1), .val (.int (1 : Int32))] (D at_177) rfl ?_
            refine X2952.aload (x := (.ref ss)) (D at_179) rfl rfl ?_
            refine X2952.calls [(.ref ss)] [] (ctIS2 l Z a0 hw hEL z0 S0 hz0 SA1 SH SL fm hfm SF ss c0 c1 _ _ F2954 r0 r1) (w 30 rfl) (w 31 rfl) (w 32 rfl) (w 33 rfl) (by decide) (fun _ q => nomatch q) (by decide) 0 (by decide) (by decide) (by decide) (lenOf pd_18 rfl) rfl (leb rfl) (by rw [hml]; rfl) (D at_181) ?_
            rintro T2991 h2992 _ X2994 K2995 (⟨rfl, hc2990⟩ | ⟨rfl, hc2990⟩)
            · have F2996 := F2954.keep K2995
              show Goes p.tables e below _ (T2991.setTop (mkF m 184 #[.val (.int p0), .val (.int p1), .val (.int p2), .val (.int p3), .val (.int p4), .val (.int (2 : Int32)), .val (.int c0), .val (.int c1), .val (.int c2), .val (.int c3), .val (.ref ss), .val (.int (1 : Int32)), .val (.int c1), .val (.int (1 : Int32))] [(.int (1 : Int32))]))
              refine X2994.iload (x := (1 : Int32)) (D at_184) rfl ?_
              refine X2994.icmp_ne 193 (D at_186) ⟨by decide, by decide⟩ (fun hc2997 => absurd hc2997 (by decide)) (fun hc2997 => ?_)
              refine X2994.iconst (x := (1 : Int32)) (D at_189) rfl ?_
              refine X2994.goto 194 (D at_190) ⟨by decide, by decide⟩ ?_
              exact X2994.reti hret (by simp) hlk (D at_194) (by decide) (by decide) (rfl)
            · have F2996 := F2954.keep K2995
              show Goes p.tables e below _ (T2991.setTop (mkF m 184 #[.val (.int p0), .val (.int p1), .val (.int p2), .val (.int p3), .val (.int p4), .val (.int (2 : Int32)), .val (.int c0), .val (.int c1), .val (.int c2), .val (.int c3), .val (.ref ss), .val (.int (1 : Int32)), .val (.int c1), .val (.int (1 : Int32))] [(.int (0 : Int32))]))
              refine X2994.iload (x := (1 : Int32)) (D at_184) rfl ?_
              refine X2994.icmp_ne 193 (D at_186) ⟨by decide, by decide⟩ (fun hc2998 => ?_) (fun hc2998 => absurd hc2998 (by decide))
              refine X2994.iconst (x := (0 : Int32)) (D at_193) rfl ?_
              exact (hc2990 (⟨hc2970, hc2980, hc2928, hc2948⟩)).elim
      · have F2954 := F2934.keep K2953
        show Goes p.tables e below _ (T2949.setTop (mkF m 115 #[.val (.int p0), .val (.int p1), .val (.int p2), .val (.int p3), .val (.int p4), .val (.int (2 : Int32)), .val (.int c0), .val (.int c1), .val (.int c2), .val (.int c3), .val (.ref ss), .unset, .val (.int c1), .unset] [(.int (0 : Int32))]))
        refine X2952.if_eq 150 (D at_115) ⟨by decide, by decide⟩ (fun hc2955 => ?_) (fun hc2955 => absurd hc2955 (by decide))
        refine X2952.iconst (x := (0 : Int32)) (D at_150) rfl ?_
        refine X2952.istore #[.val (.int p0), .val (.int p1), .val (.int p2), .val (.int p3), .val (.int p4), .val (.int (2 : Int32)), .val (.int c0), .val (.int c1), .val (.int c2), .val (.int c3), .val (.ref ss), .unset, .val (.int c1), .val (.int (0 : Int32))] (D at_151) rfl ?_
        refine X2952.iload (x := (0 : Int32)) (D at_153) rfl ?_
        refine X2952.if_eq 176 (D at_155) ⟨by decide, by decide⟩ (fun hc2956 => ?_) (fun hc2956 => absurd hc2956 (by decide))
        refine X2952.iconst (x := (0 : Int32)) (D at_176) rfl ?_
        refine X2952.istore #[.val (.int p0), .val (.int p1), .val (.int p2), .val (.int p3), .val (.int p4), .val (.int (2 : Int32)), .val (.int c0), .val (.int c1), .val (.int c2), .val (.int c3), .val (.ref ss), .val (.int (0 : Int32)), .val (.int c1), .val (.int (0 : Int32))] (D at_177) rfl ?_
        refine X2952.aload (x := (.ref ss)) (D at_179) rfl rfl ?_
        refine X2952.calls [(.ref ss)] [] (ctIS2 l Z a0 hw hEL z0 S0 hz0 SA1 SH SL fm hfm SF ss c0 c1 _ _ F2954 r0 r1) (w 30 rfl) (w 31 rfl) (w 32 rfl) (w 33 rfl) (by decide) (fun _ q => nomatch q) (by decide) 0 (by decide) (by decide) (by decide) (lenOf pd_18 rfl) rfl (leb rfl) (by rw [hml]; rfl) (D at_181) ?_
        rintro T2958 h2959 _ X2961 K2962 (⟨rfl, hc2957⟩ | ⟨rfl, hc2957⟩)
        · have F2963 := F2954.keep K2962
          show Goes p.tables e below _ (T2958.setTop (mkF m 184 #[.val (.int p0), .val (.int p1), .val (.int p2), .val (.int p3), .val (.int p4), .val (.int (2 : Int32)), .val (.int c0), .val (.int c1), .val (.int c2), .val (.int c3), .val (.ref ss), .val (.int (0 : Int32)), .val (.int c1), .val (.int (0 : Int32))] [(.int (1 : Int32))]))
          refine X2961.iload (x := (0 : Int32)) (D at_184) rfl ?_
          refine X2961.icmp_ne 193 (D at_186) ⟨by decide, by decide⟩ (fun hc2964 => ?_) (fun hc2964 => absurd hc2964 (by decide))
          refine X2961.iconst (x := (0 : Int32)) (D at_193) rfl ?_
          exact absurd hc2957 (fun q => hc2948 (q.2.2.2))
        · have F2963 := F2954.keep K2962
          show Goes p.tables e below _ (T2958.setTop (mkF m 184 #[.val (.int p0), .val (.int p1), .val (.int p2), .val (.int p3), .val (.int p4), .val (.int (2 : Int32)), .val (.int c0), .val (.int c1), .val (.int c2), .val (.int c3), .val (.ref ss), .val (.int (0 : Int32)), .val (.int c1), .val (.int (0 : Int32))] [(.int (0 : Int32))]))
          refine X2961.iload (x := (0 : Int32)) (D at_184) rfl ?_
          refine X2961.icmp_ne 193 (D at_186) ⟨by decide, by decide⟩ (fun hc2965 => absurd hc2965 (by decide)) (fun hc2965 => ?_)
          refine X2961.iconst (x := (1 : Int32)) (D at_189) rfl ?_
          refine X2961.goto 194 (D at_190) ⟨by decide, by decide⟩ ?_
          exact X2961.reti hret (by simp) hlk (D at_194) (by decide) (by decide) (rfl)
    · have F2934 := W0.keep K2933
      show Goes p.tables e below _ (T2929.setTop (mkF m 101 #[.val (.int p0), .val (.int p1), .val (.int p2), .val (.int p3), .val (.int p4), .val (.int (2 : Int32)), .val (.int c0), .val (.int c1), .val (.int c2), .val (.int c3), .val (.ref ss), .unset, .val (.int c1), .unset] [(.int (0 : Int32))]))
      refine X2932.if_eq 150 (D at_101) ⟨by decide, by decide⟩ (fun hc2935 => ?_) (fun hc2935 => absurd hc2935 (by decide))
      refine X2932.iconst (x := (0 : Int32)) (D at_150) rfl ?_
      refine X2932.istore #[.val (.int p0), .val (.int p1), .val (.int p2), .val (.int p3), .val (.int p4), .val (.int (2 : Int32)), .val (.int c0), .val (.int c1), .val (.int c2), .val (.int c3), .val (.ref ss), .unset, .val (.int c1), .val (.int (0 : Int32))] (D at_151) rfl ?_
      refine X2932.iload (x := (0 : Int32)) (D at_153) rfl ?_
      refine X2932.if_eq 176 (D at_155) ⟨by decide, by decide⟩ (fun hc2936 => ?_) (fun hc2936 => absurd hc2936 (by decide))
      refine X2932.iconst (x := (0 : Int32)) (D at_176) rfl ?_
      refine X2932.istore #[.val (.int p0), .val (.int p1), .val (.int p2), .val (.int p3), .val (.int p4), .val (.int (2 : Int32)), .val (.int c0), .val (.int c1), .val (.int c2), .val (.int c3), .val (.ref ss), .val (.int (0 : Int32)), .val (.int c1), .val (.int (0 : Int32))] (D at_177) rfl ?_
      refine X2932.aload (x := (.ref ss)) (D at_179) rfl rfl ?_
      refine X2932.calls [(.ref ss)] [] (ctIS2 l Z a0 hw hEL z0 S0 hz0 SA1 SH SL fm hfm SF ss c0 c1 _ _ F2934 r0 r1) (w 30 rfl) (w 31 rfl) (w 32 rfl) (w 33 rfl) (by decide) (fun _ q => nomatch q) (by decide) 0 (by decide) (by decide) (by decide) (lenOf pd_18 rfl) rfl (leb rfl) (by rw [hml]; rfl) (D at_181) ?_
      rintro T2938 h2939 _ X2941 K2942 (⟨rfl, hc2937⟩ | ⟨rfl, hc2937⟩)
      · have F2943 := F2934.keep K2942
        show Goes p.tables e below _ (T2938.setTop (mkF m 184 #[.val (.int p0), .val (.int p1), .val (.int p2), .val (.int p3), .val (.int p4), .val (.int (2 : Int32)), .val (.int c0), .val (.int c1), .val (.int c2), .val (.int c3), .val (.ref ss), .val (.int (0 : Int32)), .val (.int c1), .val (.int (0 : Int32))] [(.int (1 : Int32))]))
        refine X2941.iload (x := (0 : Int32)) (D at_184) rfl ?_
        refine X2941.icmp_ne 193 (D at_186) ⟨by decide, by decide⟩ (fun hc2944 => ?_) (fun hc2944 => absurd hc2944 (by decide))
        refine X2941.iconst (x := (0 : Int32)) (D at_193) rfl ?_
        exact absurd hc2937 (fun q => hc2928 (q.2.2.1))
      · have F2943 := F2934.keep K2942
        show Goes p.tables e below _ (T2938.setTop (mkF m 184 #[.val (.int p0), .val (.int p1), .val (.int p2), .val (.int p3), .val (.int p4), .val (.int (2 : Int32)), .val (.int c0), .val (.int c1), .val (.int c2), .val (.int c3), .val (.ref ss), .val (.int (0 : Int32)), .val (.int c1), .val (.int (0 : Int32))] [(.int (0 : Int32))]))
        refine X2941.iload (x := (0 : Int32)) (D at_184) rfl ?_
        refine X2941.icmp_ne 193 (D at_186) ⟨by decide, by decide⟩ (fun hc2945 => absurd hc2945 (by decide)) (fun hc2945 => ?_)
        refine X2941.iconst (x := (1 : Int32)) (D at_189) rfl ?_
        refine X2941.goto 194 (D at_190) ⟨by decide, by decide⟩ ?_
        exact X2941.reti hret (by simp) hlk (D at_194) (by decide) (by decide) (rfl)
  · rw [hm]
    show Goes p.tables e below _ (T2841.setTop (mkF m 43 #[.val (.int p0), .val (.int p1), .val (.int p2), .val (.int p3), .val (.int p4), .val (.int (3 : Int32)), .val (.int c0), .val (.int c1), .val (.int c2), .val (.int c3), .unset, .unset, .unset, .unset] [(.int c3), (.int c2), (.int c1), (.int c0), (.int (3 : Int32))]))
    refine X2844.calls [(.int (3 : Int32)), (.int c0), (.int c1), (.int c2), (.int c3)] [] (ctMk3 l Z a0 hw hEL z0 S0 hz0 SA1 SH SL c0 c1 c2 c3 _ _ r0 r1 r2 r3) (w 5 rfl) (w 6 rfl) (w 3 rfl) (w 7 rfl) (by decide) (fun _ q => nomatch q) (by decide) 0 (by decide) (by decide) (by decide) (lenOf pd_17 rfl) rfl (leb rfl) (by rw [hml]; rfl) (D at_43) ?_
    rintro T2999 h3000 _ X3002 K3003 ⟨ss, rfl, W0⟩
    show Goes p.tables e below _ (T2999.setTop (mkF m 46 #[.val (.int p0), .val (.int p1), .val (.int p2), .val (.int p3), .val (.int p4), .val (.int (3 : Int32)), .val (.int c0), .val (.int c1), .val (.int c2), .val (.int c3), .unset, .unset, .unset, .unset] [(.ref ss)]))
    refine X3002.astore #[.val (.int p0), .val (.int p1), .val (.int p2), .val (.int p3), .val (.int p4), .val (.int (3 : Int32)), .val (.int c0), .val (.int c1), .val (.int c2), .val (.int c3), .val (.ref ss), .unset, .unset, .unset] (D at_46) rfl rfl ?_
    refine X3002.iload (x := (3 : Int32)) (D at_48) rfl ?_
    refine X3002.if_ne 59 (D at_50) ⟨by decide, by decide⟩ (fun hc3004 => ?_) (fun hc3004 => absurd hc3004 (by decide))
    refine X3002.iload (x := (3 : Int32)) (D at_59) rfl ?_
    refine X3002.iconst (x := (1 : Int32)) (D at_61) rfl ?_
    refine X3002.icmp_ne 70 (D at_62) ⟨by decide, by decide⟩ (fun hc3005 => ?_) (fun hc3005 => absurd hc3005 (by decide))
    refine X3002.iload (x := (3 : Int32)) (D at_70) rfl ?_
    refine X3002.iconst (x := (2 : Int32)) (D at_72) rfl ?_
    refine X3002.icmp_ne 81 (D at_73) ⟨by decide, by decide⟩ (fun hc3006 => ?_) (fun hc3006 => absurd hc3006 (by decide))
    refine X3002.iload (x := (3 : Int32)) (D at_81) rfl ?_
    refine X3002.iconst (x := (3 : Int32)) (D at_83) rfl ?_
    refine X3002.icmp_ne 92 (D at_84) ⟨by decide, by decide⟩ (fun hc3007 => absurd hc3007 (by decide)) (fun hc3007 => ?_)
    refine X3002.iload (x := c2) (D at_87) rfl ?_
    refine X3002.goto 94 (D at_89) ⟨by decide, by decide⟩ ?_
    refine X3002.istore #[.val (.int p0), .val (.int p1), .val (.int p2), .val (.int p3), .val (.int p4), .val (.int (3 : Int32)), .val (.int c0), .val (.int c1), .val (.int c2), .val (.int c3), .val (.ref ss), .unset, .val (.int c2), .unset] (D at_94) rfl ?_
    refine X3002.iload (x := c0) (D at_96) rfl ?_
    show Goes p.tables e below _ (T2999.setTop (mkF m 98 #[.val (.int p0), .val (.int p1), .val (.int p2), .val (.int p3), .val (.int p4), .val (.int (3 : Int32)), .val (.int c0), .val (.int c1), .val (.int c2), .val (.int c3), .val (.ref ss), .unset, .val (.int c2), .unset] [(.int c0)]))
    refine X3002.calls [(.int c0)] [] (ctOk l Z a0 hw hEL z0 S0 hz0 c0 _ _) (w 50 rfl) (w 51 rfl) (w 3 rfl) (w 52 rfl) (by decide) (fun _ q => nomatch q) (by decide) 0 (by decide) (by decide) (by decide) (lenOf pd_19 rfl) rfl (leb rfl) (by rw [hml]; rfl) (D at_98) ?_
    rintro T3009 h3010 _ X3012 K3013 (⟨rfl, hc3008⟩ | ⟨rfl, hc3008⟩)
    · have F3014 := W0.keep K3013
      show Goes p.tables e below _ (T3009.setTop (mkF m 101 #[.val (.int p0), .val (.int p1), .val (.int p2), .val (.int p3), .val (.int p4), .val (.int (3 : Int32)), .val (.int c0), .val (.int c1), .val (.int c2), .val (.int c3), .val (.ref ss), .unset, .val (.int c2), .unset] [(.int (1 : Int32))]))
      refine X3012.if_eq 150 (D at_101) ⟨by decide, by decide⟩ (fun hc3026 => absurd hc3026 (by decide)) (fun hc3026 => ?_)
      refine X3012.iload (x := (3 : Int32)) (D at_104) rfl ?_
      refine X3012.iconst (x := (2 : Int32)) (D at_106) rfl ?_
      refine X3012.icmp_lt 118 (D at_107) ⟨by decide, by decide⟩ (fun hc3027 => absurd hc3027 (by decide)) (fun hc3027 => ?_)
      refine X3012.iload (x := c1) (D at_110) rfl ?_
      refine X3012.calls [(.int c1)] [] (ctOk l Z a0 hw hEL z0 S0 hz0 c1 _ _) (w 50 rfl) (w 51 rfl) (w 3 rfl) (w 52 rfl) (by decide) (fun _ q => nomatch q) (by decide) 0 (by decide) (by decide) (by decide) (lenOf pd_19 rfl) rfl (leb rfl) (by rw [hml]; rfl) (D at_112) ?_
      rintro T3029 h3030 _ X3032 K3033 (⟨rfl, hc3028⟩ | ⟨rfl, hc3028⟩)
      · have F3034 := F3014.keep K3033
        show Goes p.tables e below _ (T3029.setTop (mkF m 115 #[.val (.int p0), .val (.int p1), .val (.int p2), .val (.int p3), .val (.int p4), .val (.int (3 : Int32)), .val (.int c0), .val (.int c1), .val (.int c2), .val (.int c3), .val (.ref ss), .unset, .val (.int c2), .unset] [(.int (1 : Int32))]))
        refine X3032.if_eq 150 (D at_115) ⟨by decide, by decide⟩ (fun hc3046 => absurd hc3046 (by decide)) (fun hc3046 => ?_)
        refine X3032.iload (x := (3 : Int32)) (D at_118) rfl ?_
        refine X3032.iconst (x := (3 : Int32)) (D at_120) rfl ?_
        refine X3032.icmp_lt 132 (D at_121) ⟨by decide, by decide⟩ (fun hc3047 => absurd hc3047 (by decide)) (fun hc3047 => ?_)
        refine X3032.iload (x := c2) (D at_124) rfl ?_
        refine X3032.calls [(.int c2)] [] (ctOk l Z a0 hw hEL z0 S0 hz0 c2 _ _) (w 50 rfl) (w 51 rfl) (w 3 rfl) (w 52 rfl) (by decide) (fun _ q => nomatch q) (by decide) 0 (by decide) (by decide) (by decide) (lenOf pd_19 rfl) rfl (leb rfl) (by rw [hml]; rfl) (D at_126) ?_
        rintro T3049 h3050 _ X3052 K3053 (⟨rfl, hc3048⟩ | ⟨rfl, hc3048⟩)
        · have F3054 := F3034.keep K3053
          show Goes p.tables e below _ (T3049.setTop (mkF m 129 #[.val (.int p0), .val (.int p1), .val (.int p2), .val (.int p3), .val (.int p4), .val (.int (3 : Int32)), .val (.int c0), .val (.int c1), .val (.int c2), .val (.int c3), .val (.ref ss), .unset, .val (.int c2), .unset] [(.int (1 : Int32))]))
          refine X3052.if_eq 150 (D at_129) ⟨by decide, by decide⟩ (fun hc3066 => absurd hc3066 (by decide)) (fun hc3066 => ?_)
          refine X3052.iload (x := (3 : Int32)) (D at_132) rfl ?_
          refine X3052.iconst (x := (4 : Int32)) (D at_134) rfl ?_
          refine X3052.icmp_lt 146 (D at_135) ⟨by decide, by decide⟩ (fun hc3067 => ?_) (fun hc3067 => absurd hc3067 (by decide))
          refine X3052.iconst (x := (1 : Int32)) (D at_146) rfl ?_
          refine X3052.goto 151 (D at_147) ⟨by decide, by decide⟩ ?_
          refine X3052.istore #[.val (.int p0), .val (.int p1), .val (.int p2), .val (.int p3), .val (.int p4), .val (.int (3 : Int32)), .val (.int c0), .val (.int c1), .val (.int c2), .val (.int c3), .val (.ref ss), .unset, .val (.int c2), .val (.int (1 : Int32))] (D at_151) rfl ?_
          refine X3052.iload (x := (1 : Int32)) (D at_153) rfl ?_
          refine X3052.if_eq 176 (D at_155) ⟨by decide, by decide⟩ (fun hc3068 => absurd hc3068 (by decide)) (fun hc3068 => ?_)
          refine X3052.iload (x := c0) (D at_158) rfl ?_
          refine X3052.bipush (x := (32 : Int32)) (D at_160) rfl ?_
          refine X3052.icmp_eq 176 (D at_162) ⟨by decide, by decide⟩ (fun hc3069 => ?_) (fun hc3069 => ?_)
          · refine X3052.iconst (x := (0 : Int32)) (D at_176) rfl ?_
            refine X3052.istore #[.val (.int p0), .val (.int p1), .val (.int p2), .val (.int p3), .val (.int p4), .val (.int (3 : Int32)), .val (.int c0), .val (.int c1), .val (.int c2), .val (.int c3), .val (.ref ss), .val (.int (0 : Int32)), .val (.int c2), .val (.int (1 : Int32))] (D at_177) rfl ?_
            show Goes p.tables e below _ (T3049.setTop (mkF m 179 #[.val (.int p0), .val (.int p1), .val (.int p2), .val (.int p3), .val (.int p4), .val (.int (3 : Int32)), .val (.int c0), .val (.int c1), .val (.int c2), .val (.int c3), .val (.ref ss), .val (.int (0 : Int32)), .val (.int c2), .val (.int (1 : Int32))] []))
            refine X3052.aload (x := (.ref ss)) (D at_179) rfl rfl ?_
            refine X3052.calls [(.ref ss)] [] (ctIS3 l Z a0 hw hEL z0 S0 hz0 SA1 SH SL fm hfm SF ss c0 c1 c2 _ _ F3054 r0 r1 r2) (w 30 rfl) (w 31 rfl) (w 32 rfl) (w 33 rfl) (by decide) (fun _ q => nomatch q) (by decide) 0 (by decide) (by decide) (by decide) (lenOf pd_18 rfl) rfl (leb rfl) (by rw [hml]; rfl) (D at_181) ?_
            rintro T3071 h3072 _ X3074 K3075 (⟨rfl, hc3070⟩ | ⟨rfl, hc3070⟩)
            · have F3076 := F3054.keep K3075
              show Goes p.tables e below _ (T3071.setTop (mkF m 184 #[.val (.int p0), .val (.int p1), .val (.int p2), .val (.int p3), .val (.int p4), .val (.int (3 : Int32)), .val (.int c0), .val (.int c1), .val (.int c2), .val (.int c3), .val (.ref ss), .val (.int (0 : Int32)), .val (.int c2), .val (.int (1 : Int32))] [(.int (1 : Int32))]))
              refine X3074.iload (x := (0 : Int32)) (D at_184) rfl ?_
              refine X3074.icmp_ne 193 (D at_186) ⟨by decide, by decide⟩ (fun hc3077 => ?_) (fun hc3077 => absurd hc3077 (by decide))
              refine X3074.iconst (x := (0 : Int32)) (D at_193) rfl ?_
              exact absurd hc3070 (fun q => q.1 hc3069)
            · have F3076 := F3054.keep K3075
              show Goes p.tables e below _ (T3071.setTop (mkF m 184 #[.val (.int p0), .val (.int p1), .val (.int p2), .val (.int p3), .val (.int p4), .val (.int (3 : Int32)), .val (.int c0), .val (.int c1), .val (.int c2), .val (.int c3), .val (.ref ss), .val (.int (0 : Int32)), .val (.int c2), .val (.int (1 : Int32))] [(.int (0 : Int32))]))
              refine X3074.iload (x := (0 : Int32)) (D at_184) rfl ?_
              refine X3074.icmp_ne 193 (D at_186) ⟨by decide, by decide⟩ (fun hc3078 => absurd hc3078 (by decide)) (fun hc3078 => ?_)
              refine X3074.iconst (x := (1 : Int32)) (D at_189) rfl ?_
              refine X3074.goto 194 (D at_190) ⟨by decide, by decide⟩ ?_
              exact X3074.reti hret (by simp) hlk (D at_194) (by decide) (by decide) (rfl)
          · refine X3052.iload (x := c2) (D at_165) rfl ?_
            refine X3052.bipush (x := (32 : Int32)) (D at_167) rfl ?_
            show Goes p.tables e below _ (T3049.setTop (mkF m 169 #[.val (.int p0), .val (.int p1), .val (.int p2), .val (.int p3), .val (.int p4), .val (.int (3 : Int32)), .val (.int c0), .val (.int c1), .val (.int c2), .val (.int c3), .val (.ref ss), .unset, .val (.int c2), .val (.int (1 : Int32))] [(.int (32 : Int32)), (.int c2)]))
            refine X3052.icmp_eq 176 (D at_169) ⟨by decide, by decide⟩ (fun hc3079 => ?_) (fun hc3079 => ?_)
            · refine X3052.iconst (x := (0 : Int32)) (D at_176) rfl ?_
              refine X3052.istore #[.val (.int p0), .val (.int p1), .val (.int p2), .val (.int p3), .val (.int p4), .val (.int (3 : Int32)), .val (.int c0), .val (.int c1), .val (.int c2), .val (.int c3), .val (.ref ss), .val (.int (0 : Int32)), .val (.int c2), .val (.int (1 : Int32))] (D at_177) rfl ?_
              refine X3052.aload (x := (.ref ss)) (D at_179) rfl rfl ?_
              refine X3052.calls [(.ref ss)] [] (ctIS3 l Z a0 hw hEL z0 S0 hz0 SA1 SH SL fm hfm SF ss c0 c1 c2 _ _ F3054 r0 r1 r2) (w 30 rfl) (w 31 rfl) (w 32 rfl) (w 33 rfl) (by decide) (fun _ q => nomatch q) (by decide) 0 (by decide) (by decide) (by decide) (lenOf pd_18 rfl) rfl (leb rfl) (by rw [hml]; rfl) (D at_181) ?_
              rintro T3081 h3082 _ X3084 K3085 (⟨rfl, hc3080⟩ | ⟨rfl, hc3080⟩)
              · have F3086 := F3054.keep K3085
                show Goes p.tables e below _ (T3081.setTop (mkF m 184 #[.val (.int p0), .val (.int p1), .val (.int p2), .val (.int p3), .val (.int p4), .val (.int (3 : Int32)), .val (.int c0), .val (.int c1), .val (.int c2), .val (.int c3), .val (.ref ss), .val (.int (0 : Int32)), .val (.int c2), .val (.int (1 : Int32))] [(.int (1 : Int32))]))
                refine X3084.iload (x := (0 : Int32)) (D at_184) rfl ?_
                refine X3084.icmp_ne 193 (D at_186) ⟨by decide, by decide⟩ (fun hc3087 => ?_) (fun hc3087 => absurd hc3087 (by decide))
                refine X3084.iconst (x := (0 : Int32)) (D at_193) rfl ?_
                exact absurd hc3080 (fun q => q.2.1 hc3079)
              · have F3086 := F3054.keep K3085
                show Goes p.tables e below _ (T3081.setTop (mkF m 184 #[.val (.int p0), .val (.int p1), .val (.int p2), .val (.int p3), .val (.int p4), .val (.int (3 : Int32)), .val (.int c0), .val (.int c1), .val (.int c2), .val (.int c3), .val (.ref ss), .val (.int (0 : Int32)), .val (.int c2), .val (.int (1 : Int32))] [(.int (0 : Int32))]))
                refine X3084.iload (x := (0 : Int32)) (D at_184) rfl ?_
                refine X3084.icmp_ne 193 (D at_186) ⟨by decide, by decide⟩ (fun hc3088 => absurd hc3088 (by decide)) (fun hc3088 => ?_)
                refine X3084.iconst (x := (1 : Int32)) (D at_189) rfl ?_
                refine X3084.goto 194 (D at_190) ⟨by decide, by decide⟩ ?_
                exact X3084.reti hret (by simp) hlk (D at_194) (by decide) (by decide) (rfl)
            · refine X3052.iconst (x := (1 : Int32)) (D at_172) rfl ?_
              refine X3052.goto 177 (D at_173) ⟨by decide, by decide⟩ ?_
              refine X3052.istore #[.val (.int p0), .val (.int p1), .val (.int p2), .val (.int p3), .val (.int p4), .val (.int (3 : Int32)), .val (.int c0), .val (.int c1), .val (.int c2), .val (.int c3), .val (.ref ss), .val (.int (1 : Int32)), .val (.int c2), .val (.int (1 : Int32))] (D at_177) rfl ?_
              refine X3052.aload (x := (.ref ss)) (D at_179) rfl rfl ?_
              refine X3052.calls [(.ref ss)] [] (ctIS3 l Z a0 hw hEL z0 S0 hz0 SA1 SH SL fm hfm SF ss c0 c1 c2 _ _ F3054 r0 r1 r2) (w 30 rfl) (w 31 rfl) (w 32 rfl) (w 33 rfl) (by decide) (fun _ q => nomatch q) (by decide) 0 (by decide) (by decide) (by decide) (lenOf pd_18 rfl) rfl (leb rfl) (by rw [hml]; rfl) (D at_181) ?_
              rintro T3090 h3091 _ X3093 K3094 (⟨rfl, hc3089⟩ | ⟨rfl, hc3089⟩)
              · have F3095 := F3054.keep K3094
                show Goes p.tables e below _ (T3090.setTop (mkF m 184 #[.val (.int p0), .val (.int p1), .val (.int p2), .val (.int p3), .val (.int p4), .val (.int (3 : Int32)), .val (.int c0), .val (.int c1), .val (.int c2), .val (.int c3), .val (.ref ss), .val (.int (1 : Int32)), .val (.int c2), .val (.int (1 : Int32))] [(.int (1 : Int32))]))
                refine X3093.iload (x := (1 : Int32)) (D at_184) rfl ?_
                refine X3093.icmp_ne 193 (D at_186) ⟨by decide, by decide⟩ (fun hc3096 => absurd hc3096 (by decide)) (fun hc3096 => ?_)
                refine X3093.iconst (x := (1 : Int32)) (D at_189) rfl ?_
                refine X3093.goto 194 (D at_190) ⟨by decide, by decide⟩ ?_
                exact X3093.reti hret (by simp) hlk (D at_194) (by decide) (by decide) (rfl)
              · have F3095 := F3054.keep K3094
                show Goes p.tables e below _ (T3090.setTop (mkF m 184 #[.val (.int p0), .val (.int p1), .val (.int p2), .val (.int p3), .val (.int p4), .val (.int (3 : Int32)), .val (.int c0), .val (.int c1), .val (.int c2), .val (.int c3), .val (.ref ss), .val (.int (1 : Int32)), .val (.int c2), .val (.int (1 : Int32))] [(.int (0 : Int32))]))
                refine X3093.iload (x := (1 : Int32)) (D at_184) rfl ?_
                refine X3093.icmp_ne 193 (D at_186) ⟨by decide, by decide⟩ (fun hc3097 => ?_) (fun hc3097 => absurd hc3097 (by decide))
                refine X3093.iconst (x := (0 : Int32)) (D at_193) rfl ?_
                exact (hc3089 (⟨hc3069, hc3079, hc3008, hc3028, hc3048⟩)).elim
        · have F3054 := F3034.keep K3053
          show Goes p.tables e below _ (T3049.setTop (mkF m 129 #[.val (.int p0), .val (.int p1), .val (.int p2), .val (.int p3), .val (.int p4), .val (.int (3 : Int32)), .val (.int c0), .val (.int c1), .val (.int c2), .val (.int c3), .val (.ref ss), .unset, .val (.int c2), .unset] [(.int (0 : Int32))]))
          refine X3052.if_eq 150 (D at_129) ⟨by decide, by decide⟩ (fun hc3055 => ?_) (fun hc3055 => absurd hc3055 (by decide))
          refine X3052.iconst (x := (0 : Int32)) (D at_150) rfl ?_
          refine X3052.istore #[.val (.int p0), .val (.int p1), .val (.int p2), .val (.int p3), .val (.int p4), .val (.int (3 : Int32)), .val (.int c0), .val (.int c1), .val (.int c2), .val (.int c3), .val (.ref ss), .unset, .val (.int c2), .val (.int (0 : Int32))] (D at_151) rfl ?_
          refine X3052.iload (x := (0 : Int32)) (D at_153) rfl ?_
          refine X3052.if_eq 176 (D at_155) ⟨by decide, by decide⟩ (fun hc3056 => ?_) (fun hc3056 => absurd hc3056 (by decide))
          refine X3052.iconst (x := (0 : Int32)) (D at_176) rfl ?_
          refine X3052.istore #[.val (.int p0), .val (.int p1), .val (.int p2), .val (.int p3), .val (.int p4), .val (.int (3 : Int32)), .val (.int c0), .val (.int c1), .val (.int c2), .val (.int c3), .val (.ref ss), .val (.int (0 : Int32)), .val (.int c2), .val (.int (0 : Int32))] (D at_177) rfl ?_
          refine X3052.aload (x := (.ref ss)) (D at_179) rfl rfl ?_
          refine X3052.calls [(.ref ss)] [] (ctIS3 l Z a0 hw hEL z0 S0 hz0 SA1 SH SL fm hfm SF ss c0 c1 c2 _ _ F3054 r0 r1 r2) (w 30 rfl) (w 31 rfl) (w 32 rfl) (w 33 rfl) (by decide) (fun _ q => nomatch q) (by decide) 0 (by decide) (by decide) (by decide) (lenOf pd_18 rfl) rfl (leb rfl) (by rw [hml]; rfl) (D at_181) ?_
          rintro T3058 h3059 _ X3061 K3062 (⟨rfl, hc3057⟩ | ⟨rfl, hc3057⟩)
          · have F3063 := F3054.keep K3062
            show Goes p.tables e below _ (T3058.setTop (mkF m 184 #[.val (.int p0), .val (.int p1), .val (.int p2), .val (.int p3), .val (.int p4), .val (.int (3 : Int32)), .val (.int c0), .val (.int c1), .val (.int c2), .val (.int c3), .val (.ref ss), .val (.int (0 : Int32)), .val (.int c2), .val (.int (0 : Int32))] [(.int (1 : Int32))]))
            refine X3061.iload (x := (0 : Int32)) (D at_184) rfl ?_
            refine X3061.icmp_ne 193 (D at_186) ⟨by decide, by decide⟩ (fun hc3064 => ?_) (fun hc3064 => absurd hc3064 (by decide))
            refine X3061.iconst (x := (0 : Int32)) (D at_193) rfl ?_
            exact absurd hc3057 (fun q => hc3048 (q.2.2.2.2))
          · have F3063 := F3054.keep K3062
            show Goes p.tables e below _ (T3058.setTop (mkF m 184 #[.val (.int p0), .val (.int p1), .val (.int p2), .val (.int p3), .val (.int p4), .val (.int (3 : Int32)), .val (.int c0), .val (.int c1), .val (.int c2), .val (.int c3), .val (.ref ss), .val (.int (0 : Int32)), .val (.int c2), .val (.int (0 : Int32))] [(.int (0 : Int32))]))
            refine X3061.iload (x := (0 : Int32)) (D at_184) rfl ?_
            refine X3061.icmp_ne 193 (D at_186) ⟨by decide, by decide⟩ (fun hc3065 => absurd hc3065 (by decide)) (fun hc3065 => ?_)
            refine X3061.iconst (x := (1 : Int32)) (D at_189) rfl ?_
            refine X3061.goto 194 (D at_190) ⟨by decide, by decide⟩ ?_
            exact X3061.reti hret (by simp) hlk (D at_194) (by decide) (by decide) (rfl)
      · have F3034 := F3014.keep K3033
        show Goes p.tables e below _ (T3029.setTop (mkF m 115 #[.val (.int p0), .val (.int p1), .val (.int p2), .val (.int p3), .val (.int p4), .val (.int (3 : Int32)), .val (.int c0), .val (.int c1), .val (.int c2), .val (.int c3), .val (.ref ss), .unset, .val (.int c2), .unset] [(.int (0 : Int32))]))
        refine X3032.if_eq 150 (D at_115) ⟨by decide, by decide⟩ (fun hc3035 => ?_) (fun hc3035 => absurd hc3035 (by decide))
        refine X3032.iconst (x := (0 : Int32)) (D at_150) rfl ?_
        refine X3032.istore #[.val (.int p0), .val (.int p1), .val (.int p2), .val (.int p3), .val (.int p4), .val (.int (3 : Int32)), .val (.int c0), .val (.int c1), .val (.int c2), .val (.int c3), .val (.ref ss), .unset, .val (.int c2), .val (.int (0 : Int32))] (D at_151) rfl ?_
        refine X3032.iload (x := (0 : Int32)) (D at_153) rfl ?_
        refine X3032.if_eq 176 (D at_155) ⟨by decide, by decide⟩ (fun hc3036 => ?_) (fun hc3036 => absurd hc3036 (by decide))
        refine X3032.iconst (x := (0 : Int32)) (D at_176) rfl ?_
        refine X3032.istore #[.val (.int p0), .val (.int p1), .val (.int p2), .val (.int p3), .val (.int p4), .val (.int (3 : Int32)), .val (.int c0), .val (.int c1), .val (.int c2), .val (.int c3), .val (.ref ss), .val (.int (0 : Int32)), .val (.int c2), .val (.int (0 : Int32))] (D at_177) rfl ?_
        refine X3032.aload (x := (.ref ss)) (D at_179) rfl rfl ?_
        refine X3032.calls [(.ref ss)] [] (ctIS3 l Z a0 hw hEL z0 S0 hz0 SA1 SH SL fm hfm SF ss c0 c1 c2 _ _ F3034 r0 r1 r2) (w 30 rfl) (w 31 rfl) (w 32 rfl) (w 33 rfl) (by decide) (fun _ q => nomatch q) (by decide) 0 (by decide) (by decide) (by decide) (lenOf pd_18 rfl) rfl (leb rfl) (by rw [hml]; rfl) (D at_181) ?_
        rintro T3038 h3039 _ X3041 K3042 (⟨rfl, hc3037⟩ | ⟨rfl, hc3037⟩)
        · have F3043 := F3034.keep K3042
          show Goes p.tables e below _ (T3038.setTop (mkF m 184 #[.val (.int p0), .val (.int p1), .val (.int p2), .val (.int p3), .val (.int p4), .val (.int (3 : Int32)), .val (.int c0), .val (.int c1), .val (.int c2), .val (.int c3), .val (.ref ss), .val (.int (0 : Int32)), .val (.int c2), .val (.int (0 : Int32))] [(.int (1 : Int32))]))
          refine X3041.iload (x := (0 : Int32)) (D at_184) rfl ?_
          refine X3041.icmp_ne 193 (D at_186) ⟨by decide, by decide⟩ (fun hc3044 => ?_) (fun hc3044 => absurd hc3044 (by decide))
          refine X3041.iconst (x := (0 : Int32)) (D at_193) rfl ?_
          exact absurd hc3037 (fun q => hc3028 (q.2.2.2.1))
        · have F3043 := F3034.keep K3042
          show Goes p.tables e below _ (T3038.setTop (mkF m 184 #[.val (.int p0), .val (.int p1), .val (.int p2), .val (.int p3), .val (.int p4), .val (.int (3 : Int32)), .val (.int c0), .val (.int c1), .val (.int c2), .val (.int c3), .val (.ref ss), .val (.int (0 : Int32)), .val (.int c2), .val (.int (0 : Int32))] [(.int (0 : Int32))]))
          refine X3041.iload (x := (0 : Int32)) (D at_184) rfl ?_
          refine X3041.icmp_ne 193 (D at_186) ⟨by decide, by decide⟩ (fun hc3045 => absurd hc3045 (by decide)) (fun hc3045 => ?_)
          refine X3041.iconst (x := (1 : Int32)) (D at_189) rfl ?_
          refine X3041.goto 194 (D at_190) ⟨by decide, by decide⟩ ?_
          exact X3041.reti hret (by simp) hlk (D at_194) (by decide) (by decide) (rfl)
    · have F3014 := W0.keep K3013
      show Goes p.tables e below _ (T3009.setTop (mkF m 101 #[.val (.int p0), .val (.int p1), .val (.int p2), .val (.int p3), .val (.int p4), .val (.int (3 : Int32)), .val (.int c0), .val (.int c1), .val (.int c2), .val (.int c3), .val (.ref ss), .unset, .val (.int c2), .unset] [(.int (0 : Int32))]))
      refine X3012.if_eq 150 (D at_101) ⟨by decide, by decide⟩ (fun hc3015 => ?_) (fun hc3015 => absurd hc3015 (by decide))
      refine X3012.iconst (x := (0 : Int32)) (D at_150) rfl ?_
      refine X3012.istore #[.val (.int p0), .val (.int p1), .val (.int p2), .val (.int p3), .val (.int p4), .val (.int (3 : Int32)), .val (.int c0), .val (.int c1), .val (.int c2), .val (.int c3), .val (.ref ss), .unset, .val (.int c2), .val (.int (0 : Int32))] (D at_151) rfl ?_
      refine X3012.iload (x := (0 : Int32)) (D at_153) rfl ?_
      refine X3012.if_eq 176 (D at_155) ⟨by decide, by decide⟩ (fun hc3016 => ?_) (fun hc3016 => absurd hc3016 (by decide))
      refine X3012.iconst (x := (0 : Int32)) (D at_176) rfl ?_
      refine X3012.istore #[.val (.int p0), .val (.int p1), .val (.int p2), .val (.int p3), .val (.int p4), .val (.int (3 : Int32)), .val (.int c0), .val (.int c1), .val (.int c2), .val (.int c3), .val (.ref ss), .val (.int (0 : Int32)), .val (.int c2), .val (.int (0 : Int32))] (D at_177) rfl ?_
      refine X3012.aload (x := (.ref ss)) (D at_179) rfl rfl ?_
      refine X3012.calls [(.ref ss)] [] (ctIS3 l Z a0 hw hEL z0 S0 hz0 SA1 SH SL fm hfm SF ss c0 c1 c2 _ _ F3014 r0 r1 r2) (w 30 rfl) (w 31 rfl) (w 32 rfl) (w 33 rfl) (by decide) (fun _ q => nomatch q) (by decide) 0 (by decide) (by decide) (by decide) (lenOf pd_18 rfl) rfl (leb rfl) (by rw [hml]; rfl) (D at_181) ?_
      rintro T3018 h3019 _ X3021 K3022 (⟨rfl, hc3017⟩ | ⟨rfl, hc3017⟩)
      · have F3023 := F3014.keep K3022
        show Goes p.tables e below _ (T3018.setTop (mkF m 184 #[.val (.int p0), .val (.int p1), .val (.int p2), .val (.int p3), .val (.int p4), .val (.int (3 : Int32)), .val (.int c0), .val (.int c1), .val (.int c2), .val (.int c3), .val (.ref ss), .val (.int (0 : Int32)), .val (.int c2), .val (.int (0 : Int32))] [(.int (1 : Int32))]))
        refine X3021.iload (x := (0 : Int32)) (D at_184) rfl ?_
        refine X3021.icmp_ne 193 (D at_186) ⟨by decide, by decide⟩ (fun hc3024 => ?_) (fun hc3024 => absurd hc3024 (by decide))
        refine X3021.iconst (x := (0 : Int32)) (D at_193) rfl ?_
        exact absurd hc3017 (fun q => hc3008 (q.2.2.1))
      · have F3023 := F3014.keep K3022
        show Goes p.tables e below _ (T3018.setTop (mkF m 184 #[.val (.int p0), .val (.int p1), .val (.int p2), .val (.int p3), .val (.int p4), .val (.int (3 : Int32)), .val (.int c0), .val (.int c1), .val (.int c2), .val (.int c3), .val (.ref ss), .val (.int (0 : Int32)), .val (.int c2), .val (.int (0 : Int32))] [(.int (0 : Int32))]))
        refine X3021.iload (x := (0 : Int32)) (D at_184) rfl ?_
        refine X3021.icmp_ne 193 (D at_186) ⟨by decide, by decide⟩ (fun hc3025 => absurd hc3025 (by decide)) (fun hc3025 => ?_)
        refine X3021.iconst (x := (1 : Int32)) (D at_189) rfl ?_
        refine X3021.goto 194 (D at_190) ⟨by decide, by decide⟩ ?_
        exact X3021.reti hret (by simp) hlk (D at_194) (by decide) (by decide) (rfl)
  · rw [hm]
    show Goes p.tables e below _ (T2841.setTop (mkF m 43 #[.val (.int p0), .val (.int p1), .val (.int p2), .val (.int p3), .val (.int p4), .val (.int (4 : Int32)), .val (.int c0), .val (.int c1), .val (.int c2), .val (.int c3), .unset, .unset, .unset, .unset] [(.int c3), (.int c2), (.int c1), (.int c0), (.int (4 : Int32))]))
    refine X2844.calls [(.int (4 : Int32)), (.int c0), (.int c1), (.int c2), (.int c3)] [] (ctMk4 l Z a0 hw hEL z0 S0 hz0 SA1 SH SL c0 c1 c2 c3 _ _ r0 r1 r2 r3) (w 5 rfl) (w 6 rfl) (w 3 rfl) (w 7 rfl) (by decide) (fun _ q => nomatch q) (by decide) 0 (by decide) (by decide) (by decide) (lenOf pd_17 rfl) rfl (leb rfl) (by rw [hml]; rfl) (D at_43) ?_
    rintro T3098 h3099 _ X3101 K3102 ⟨ss, rfl, W0⟩
    show Goes p.tables e below _ (T3098.setTop (mkF m 46 #[.val (.int p0), .val (.int p1), .val (.int p2), .val (.int p3), .val (.int p4), .val (.int (4 : Int32)), .val (.int c0), .val (.int c1), .val (.int c2), .val (.int c3), .unset, .unset, .unset, .unset] [(.ref ss)]))
    refine X3101.astore #[.val (.int p0), .val (.int p1), .val (.int p2), .val (.int p3), .val (.int p4), .val (.int (4 : Int32)), .val (.int c0), .val (.int c1), .val (.int c2), .val (.int c3), .val (.ref ss), .unset, .unset, .unset] (D at_46) rfl rfl ?_
    refine X3101.iload (x := (4 : Int32)) (D at_48) rfl ?_
    refine X3101.if_ne 59 (D at_50) ⟨by decide, by decide⟩ (fun hc3103 => ?_) (fun hc3103 => absurd hc3103 (by decide))
    refine X3101.iload (x := (4 : Int32)) (D at_59) rfl ?_
    refine X3101.iconst (x := (1 : Int32)) (D at_61) rfl ?_
    refine X3101.icmp_ne 70 (D at_62) ⟨by decide, by decide⟩ (fun hc3104 => ?_) (fun hc3104 => absurd hc3104 (by decide))
    refine X3101.iload (x := (4 : Int32)) (D at_70) rfl ?_
    refine X3101.iconst (x := (2 : Int32)) (D at_72) rfl ?_
    refine X3101.icmp_ne 81 (D at_73) ⟨by decide, by decide⟩ (fun hc3105 => ?_) (fun hc3105 => absurd hc3105 (by decide))
    refine X3101.iload (x := (4 : Int32)) (D at_81) rfl ?_
    refine X3101.iconst (x := (3 : Int32)) (D at_83) rfl ?_
    refine X3101.icmp_ne 92 (D at_84) ⟨by decide, by decide⟩ (fun hc3106 => ?_) (fun hc3106 => absurd hc3106 (by decide))
    refine X3101.iload (x := c3) (D at_92) rfl ?_
    refine X3101.istore #[.val (.int p0), .val (.int p1), .val (.int p2), .val (.int p3), .val (.int p4), .val (.int (4 : Int32)), .val (.int c0), .val (.int c1), .val (.int c2), .val (.int c3), .val (.ref ss), .unset, .val (.int c3), .unset] (D at_94) rfl ?_
    refine X3101.iload (x := c0) (D at_96) rfl ?_
    refine X3101.calls [(.int c0)] [] (ctOk l Z a0 hw hEL z0 S0 hz0 c0 _ _) (w 50 rfl) (w 51 rfl) (w 3 rfl) (w 52 rfl) (by decide) (fun _ q => nomatch q) (by decide) 0 (by decide) (by decide) (by decide) (lenOf pd_19 rfl) rfl (leb rfl) (by rw [hml]; rfl) (D at_98) ?_
    rintro T3108 h3109 _ X3111 K3112 (⟨rfl, hc3107⟩ | ⟨rfl, hc3107⟩)
    · have F3113 := W0.keep K3112
      show Goes p.tables e below _ (T3108.setTop (mkF m 101 #[.val (.int p0), .val (.int p1), .val (.int p2), .val (.int p3), .val (.int p4), .val (.int (4 : Int32)), .val (.int c0), .val (.int c1), .val (.int c2), .val (.int c3), .val (.ref ss), .unset, .val (.int c3), .unset] [(.int (1 : Int32))]))
      refine X3111.if_eq 150 (D at_101) ⟨by decide, by decide⟩ (fun hc3125 => absurd hc3125 (by decide)) (fun hc3125 => ?_)
      refine X3111.iload (x := (4 : Int32)) (D at_104) rfl ?_
      refine X3111.iconst (x := (2 : Int32)) (D at_106) rfl ?_
      refine X3111.icmp_lt 118 (D at_107) ⟨by decide, by decide⟩ (fun hc3126 => absurd hc3126 (by decide)) (fun hc3126 => ?_)
      refine X3111.iload (x := c1) (D at_110) rfl ?_
      refine X3111.calls [(.int c1)] [] (ctOk l Z a0 hw hEL z0 S0 hz0 c1 _ _) (w 50 rfl) (w 51 rfl) (w 3 rfl) (w 52 rfl) (by decide) (fun _ q => nomatch q) (by decide) 0 (by decide) (by decide) (by decide) (lenOf pd_19 rfl) rfl (leb rfl) (by rw [hml]; rfl) (D at_112) ?_
      rintro T3128 h3129 _ X3131 K3132 (⟨rfl, hc3127⟩ | ⟨rfl, hc3127⟩)
      · have F3133 := F3113.keep K3132
        show Goes p.tables e below _ (T3128.setTop (mkF m 115 #[.val (.int p0), .val (.int p1), .val (.int p2), .val (.int p3), .val (.int p4), .val (.int (4 : Int32)), .val (.int c0), .val (.int c1), .val (.int c2), .val (.int c3), .val (.ref ss), .unset, .val (.int c3), .unset] [(.int (1 : Int32))]))
        refine X3131.if_eq 150 (D at_115) ⟨by decide, by decide⟩ (fun hc3145 => absurd hc3145 (by decide)) (fun hc3145 => ?_)
        refine X3131.iload (x := (4 : Int32)) (D at_118) rfl ?_
        refine X3131.iconst (x := (3 : Int32)) (D at_120) rfl ?_
        refine X3131.icmp_lt 132 (D at_121) ⟨by decide, by decide⟩ (fun hc3146 => absurd hc3146 (by decide)) (fun hc3146 => ?_)
        refine X3131.iload (x := c2) (D at_124) rfl ?_
        refine X3131.calls [(.int c2)] [] (ctOk l Z a0 hw hEL z0 S0 hz0 c2 _ _) (w 50 rfl) (w 51 rfl) (w 3 rfl) (w 52 rfl) (by decide) (fun _ q => nomatch q) (by decide) 0 (by decide) (by decide) (by decide) (lenOf pd_19 rfl) rfl (leb rfl) (by rw [hml]; rfl) (D at_126) ?_
        rintro T3148 h3149 _ X3151 K3152 (⟨rfl, hc3147⟩ | ⟨rfl, hc3147⟩)
        · have F3153 := F3133.keep K3152
          show Goes p.tables e below _ (T3148.setTop (mkF m 129 #[.val (.int p0), .val (.int p1), .val (.int p2), .val (.int p3), .val (.int p4), .val (.int (4 : Int32)), .val (.int c0), .val (.int c1), .val (.int c2), .val (.int c3), .val (.ref ss), .unset, .val (.int c3), .unset] [(.int (1 : Int32))]))
          refine X3151.if_eq 150 (D at_129) ⟨by decide, by decide⟩ (fun hc3165 => absurd hc3165 (by decide)) (fun hc3165 => ?_)
          refine X3151.iload (x := (4 : Int32)) (D at_132) rfl ?_
          refine X3151.iconst (x := (4 : Int32)) (D at_134) rfl ?_
          refine X3151.icmp_lt 146 (D at_135) ⟨by decide, by decide⟩ (fun hc3166 => absurd hc3166 (by decide)) (fun hc3166 => ?_)
          refine X3151.iload (x := c3) (D at_138) rfl ?_
          refine X3151.calls [(.int c3)] [] (ctOk l Z a0 hw hEL z0 S0 hz0 c3 _ _) (w 50 rfl) (w 51 rfl) (w 3 rfl) (w 52 rfl) (by decide) (fun _ q => nomatch q) (by decide) 0 (by decide) (by decide) (by decide) (lenOf pd_19 rfl) rfl (leb rfl) (by rw [hml]; rfl) (D at_140) ?_
          rintro T3168 h3169 _ X3171 K3172 (⟨rfl, hc3167⟩ | ⟨rfl, hc3167⟩)
          · have F3173 := F3153.keep K3172
            show Goes p.tables e below _ (T3168.setTop (mkF m 143 #[.val (.int p0), .val (.int p1), .val (.int p2), .val (.int p3), .val (.int p4), .val (.int (4 : Int32)), .val (.int c0), .val (.int c1), .val (.int c2), .val (.int c3), .val (.ref ss), .unset, .val (.int c3), .unset] [(.int (1 : Int32))]))
            refine X3171.if_eq 150 (D at_143) ⟨by decide, by decide⟩ (fun hc3185 => absurd hc3185 (by decide)) (fun hc3185 => ?_)
            refine X3171.iconst (x := (1 : Int32)) (D at_146) rfl ?_
            refine X3171.goto 151 (D at_147) ⟨by decide, by decide⟩ ?_
            refine X3171.istore #[.val (.int p0), .val (.int p1), .val (.int p2), .val (.int p3), .val (.int p4), .val (.int (4 : Int32)), .val (.int c0), .val (.int c1), .val (.int c2), .val (.int c3), .val (.ref ss), .unset, .val (.int c3), .val (.int (1 : Int32))] (D at_151) rfl ?_
            refine X3171.iload (x := (1 : Int32)) (D at_153) rfl ?_
            refine X3171.if_eq 176 (D at_155) ⟨by decide, by decide⟩ (fun hc3186 => absurd hc3186 (by decide)) (fun hc3186 => ?_)
            refine X3171.iload (x := c0) (D at_158) rfl ?_
            refine X3171.bipush (x := (32 : Int32)) (D at_160) rfl ?_
            refine X3171.icmp_eq 176 (D at_162) ⟨by decide, by decide⟩ (fun hc3187 => ?_) (fun hc3187 => ?_)
            · refine X3171.iconst (x := (0 : Int32)) (D at_176) rfl ?_
              refine X3171.istore #[.val (.int p0), .val (.int p1), .val (.int p2), .val (.int p3), .val (.int p4), .val (.int (4 : Int32)), .val (.int c0), .val (.int c1), .val (.int c2), .val (.int c3), .val (.ref ss), .val (.int (0 : Int32)), .val (.int c3), .val (.int (1 : Int32))] (D at_177) rfl ?_
              refine X3171.aload (x := (.ref ss)) (D at_179) rfl rfl ?_
              refine X3171.calls [(.ref ss)] [] (ctIS4 l Z a0 hw hEL z0 S0 hz0 SA1 SH SL fm hfm SF ss c0 c1 c2 c3 _ _ F3173 r0 r1 r2 r3) (w 30 rfl) (w 31 rfl) (w 32 rfl) (w 33 rfl) (by decide) (fun _ q => nomatch q) (by decide) 0 (by decide) (by decide) (by decide) (lenOf pd_18 rfl) rfl (leb rfl) (by rw [hml]; rfl) (D at_181) ?_
              rintro T3189 h3190 _ X3192 K3193 (⟨rfl, hc3188⟩ | ⟨rfl, hc3188⟩)
              · have F3194 := F3173.keep K3193
                show Goes p.tables e below _ (T3189.setTop (mkF m 184 #[.val (.int p0), .val (.int p1), .val (.int p2), .val (.int p3), .val (.int p4), .val (.int (4 : Int32)), .val (.int c0), .val (.int c1), .val (.int c2), .val (.int c3), .val (.ref ss), .val (.int (0 : Int32)), .val (.int c3), .val (.int (1 : Int32))] [(.int (1 : Int32))]))
                refine X3192.iload (x := (0 : Int32)) (D at_184) rfl ?_
                refine X3192.icmp_ne 193 (D at_186) ⟨by decide, by decide⟩ (fun hc3195 => ?_) (fun hc3195 => absurd hc3195 (by decide))
                refine X3192.iconst (x := (0 : Int32)) (D at_193) rfl ?_
                exact absurd hc3188 (fun q => q.1 hc3187)
              · have F3194 := F3173.keep K3193
                show Goes p.tables e below _ (T3189.setTop (mkF m 184 #[.val (.int p0), .val (.int p1), .val (.int p2), .val (.int p3), .val (.int p4), .val (.int (4 : Int32)), .val (.int c0), .val (.int c1), .val (.int c2), .val (.int c3), .val (.ref ss), .val (.int (0 : Int32)), .val (.int c3), .val (.int (1 : Int32))] [(.int (0 : Int32))]))
                refine X3192.iload (x := (0 : Int32)) (D at_184) rfl ?_
                refine X3192.icmp_ne 193 (D at_186) ⟨by decide, by decide⟩ (fun hc3196 => absurd hc3196 (by decide)) (fun hc3196 => ?_)
                refine X3192.iconst (x := (1 : Int32)) (D at_189) rfl ?_
                refine X3192.goto 194 (D at_190) ⟨by decide, by decide⟩ ?_
                exact X3192.reti hret (by simp) hlk (D at_194) (by decide) (by decide) (rfl)
            · refine X3171.iload (x := c3) (D at_165) rfl ?_
              refine X3171.bipush (x := (32 : Int32)) (D at_167) rfl ?_
              refine X3171.icmp_eq 176 (D at_169) ⟨by decide, by decide⟩ (fun hc3197 => ?_) (fun hc3197 => ?_)
              · show Goes p.tables e below _ (T3168.setTop (mkF m 176 #[.val (.int p0), .val (.int p1), .val (.int p2), .val (.int p3), .val (.int p4), .val (.int (4 : Int32)), .val (.int c0), .val (.int c1), .val (.int c2), .val (.int c3), .val (.ref ss), .unset, .val (.int c3), .val (.int (1 : Int32))] []))
                refine X3171.iconst (x := (0 : Int32)) (D at_176) rfl ?_
                refine X3171.istore #[.val (.int p0), .val (.int p1), .val (.int p2), .val (.int p3), .val (.int p4), .val (.int (4 : Int32)), .val (.int c0), .val (.int c1), .val (.int c2), .val (.int c3), .val (.ref ss), .val (.int (0 : Int32)), .val (.int c3), .val (.int (1 : Int32))] (D at_177) rfl ?_
                refine X3171.aload (x := (.ref ss)) (D at_179) rfl rfl ?_
                refine X3171.calls [(.ref ss)] [] (ctIS4 l Z a0 hw hEL z0 S0 hz0 SA1 SH SL fm hfm SF ss c0 c1 c2 c3 _ _ F3173 r0 r1 r2 r3) (w 30 rfl) (w 31 rfl) (w 32 rfl) (w 33 rfl) (by decide) (fun _ q => nomatch q) (by decide) 0 (by decide) (by decide) (by decide) (lenOf pd_18 rfl) rfl (leb rfl) (by rw [hml]; rfl) (D at_181) ?_
                rintro T3199 h3200 _ X3202 K3203 (⟨rfl, hc3198⟩ | ⟨rfl, hc3198⟩)
                · have F3204 := F3173.keep K3203
                  show Goes p.tables e below _ (T3199.setTop (mkF m 184 #[.val (.int p0), .val (.int p1), .val (.int p2), .val (.int p3), .val (.int p4), .val (.int (4 : Int32)), .val (.int c0), .val (.int c1), .val (.int c2), .val (.int c3), .val (.ref ss), .val (.int (0 : Int32)), .val (.int c3), .val (.int (1 : Int32))] [(.int (1 : Int32))]))
                  refine X3202.iload (x := (0 : Int32)) (D at_184) rfl ?_
                  refine X3202.icmp_ne 193 (D at_186) ⟨by decide, by decide⟩ (fun hc3205 => ?_) (fun hc3205 => absurd hc3205 (by decide))
                  refine X3202.iconst (x := (0 : Int32)) (D at_193) rfl ?_
                  exact absurd hc3198 (fun q => q.2.1 hc3197)
                · have F3204 := F3173.keep K3203
                  show Goes p.tables e below _ (T3199.setTop (mkF m 184 #[.val (.int p0), .val (.int p1), .val (.int p2), .val (.int p3), .val (.int p4), .val (.int (4 : Int32)), .val (.int c0), .val (.int c1), .val (.int c2), .val (.int c3), .val (.ref ss), .val (.int (0 : Int32)), .val (.int c3), .val (.int (1 : Int32))] [(.int (0 : Int32))]))
                  refine X3202.iload (x := (0 : Int32)) (D at_184) rfl ?_
                  refine X3202.icmp_ne 193 (D at_186) ⟨by decide, by decide⟩ (fun hc3206 => absurd hc3206 (by decide)) (fun hc3206 => ?_)
                  refine X3202.iconst (x := (1 : Int32)) (D at_189) rfl ?_
                  refine X3202.goto 194 (D at_190) ⟨by decide, by decide⟩ ?_
                  exact X3202.reti hret (by simp) hlk (D at_194) (by decide) (by decide) (rfl)
              · show Goes p.tables e below _ (T3168.setTop (mkF m 172 #[.val (.int p0), .val (.int p1), .val (.int p2), .val (.int p3), .val (.int p4), .val (.int (4 : Int32)), .val (.int c0), .val (.int c1), .val (.int c2), .val (.int c3), .val (.ref ss), .unset, .val (.int c3), .val (.int (1 : Int32))] []))
                refine X3171.iconst (x := (1 : Int32)) (D at_172) rfl ?_
                refine X3171.goto 177 (D at_173) ⟨by decide, by decide⟩ ?_
                refine X3171.istore #[.val (.int p0), .val (.int p1), .val (.int p2), .val (.int p3), .val (.int p4), .val (.int (4 : Int32)), .val (.int c0), .val (.int c1), .val (.int c2), .val (.int c3), .val (.ref ss), .val (.int (1 : Int32)), .val (.int c3), .val (.int (1 : Int32))] (D at_177) rfl ?_
                refine X3171.aload (x := (.ref ss)) (D at_179) rfl rfl ?_
                refine X3171.calls [(.ref ss)] [] (ctIS4 l Z a0 hw hEL z0 S0 hz0 SA1 SH SL fm hfm SF ss c0 c1 c2 c3 _ _ F3173 r0 r1 r2 r3) (w 30 rfl) (w 31 rfl) (w 32 rfl) (w 33 rfl) (by decide) (fun _ q => nomatch q) (by decide) 0 (by decide) (by decide) (by decide) (lenOf pd_18 rfl) rfl (leb rfl) (by rw [hml]; rfl) (D at_181) ?_
                rintro T3208 h3209 _ X3211 K3212 (⟨rfl, hc3207⟩ | ⟨rfl, hc3207⟩)
                · have F3213 := F3173.keep K3212
                  show Goes p.tables e below _ (T3208.setTop (mkF m 184 #[.val (.int p0), .val (.int p1), .val (.int p2), .val (.int p3), .val (.int p4), .val (.int (4 : Int32)), .val (.int c0), .val (.int c1), .val (.int c2), .val (.int c3), .val (.ref ss), .val (.int (1 : Int32)), .val (.int c3), .val (.int (1 : Int32))] [(.int (1 : Int32))]))
                  refine X3211.iload (x := (1 : Int32)) (D at_184) rfl ?_
                  refine X3211.icmp_ne 193 (D at_186) ⟨by decide, by decide⟩ (fun hc3214 => absurd hc3214 (by decide)) (fun hc3214 => ?_)
                  refine X3211.iconst (x := (1 : Int32)) (D at_189) rfl ?_
                  refine X3211.goto 194 (D at_190) ⟨by decide, by decide⟩ ?_
                  exact X3211.reti hret (by simp) hlk (D at_194) (by decide) (by decide) (rfl)
                · have F3213 := F3173.keep K3212
                  show Goes p.tables e below _ (T3208.setTop (mkF m 184 #[.val (.int p0), .val (.int p1), .val (.int p2), .val (.int p3), .val (.int p4), .val (.int (4 : Int32)), .val (.int c0), .val (.int c1), .val (.int c2), .val (.int c3), .val (.ref ss), .val (.int (1 : Int32)), .val (.int c3), .val (.int (1 : Int32))] [(.int (0 : Int32))]))
                  refine X3211.iload (x := (1 : Int32)) (D at_184) rfl ?_
                  refine X3211.icmp_ne 193 (D at_186) ⟨by decide, by decide⟩ (fun hc3215 => ?_) (fun hc3215 => absurd hc3215 (by decide))
                  refine X3211.iconst (x := (0 : Int32)) (D at_193) rfl ?_
                  exact (hc3207 (⟨hc3187, hc3197, hc3107, hc3127, hc3147, hc3167⟩)).elim
          · have F3173 := F3153.keep K3172
            show Goes p.tables e below _ (T3168.setTop (mkF m 143 #[.val (.int p0), .val (.int p1), .val (.int p2), .val (.int p3), .val (.int p4), .val (.int (4 : Int32)), .val (.int c0), .val (.int c1), .val (.int c2), .val (.int c3), .val (.ref ss), .unset, .val (.int c3), .unset] [(.int (0 : Int32))]))
            refine X3171.if_eq 150 (D at_143) ⟨by decide, by decide⟩ (fun hc3174 => ?_) (fun hc3174 => absurd hc3174 (by decide))
            refine X3171.iconst (x := (0 : Int32)) (D at_150) rfl ?_
            refine X3171.istore #[.val (.int p0), .val (.int p1), .val (.int p2), .val (.int p3), .val (.int p4), .val (.int (4 : Int32)), .val (.int c0), .val (.int c1), .val (.int c2), .val (.int c3), .val (.ref ss), .unset, .val (.int c3), .val (.int (0 : Int32))] (D at_151) rfl ?_
            refine X3171.iload (x := (0 : Int32)) (D at_153) rfl ?_
            refine X3171.if_eq 176 (D at_155) ⟨by decide, by decide⟩ (fun hc3175 => ?_) (fun hc3175 => absurd hc3175 (by decide))
            refine X3171.iconst (x := (0 : Int32)) (D at_176) rfl ?_
            refine X3171.istore #[.val (.int p0), .val (.int p1), .val (.int p2), .val (.int p3), .val (.int p4), .val (.int (4 : Int32)), .val (.int c0), .val (.int c1), .val (.int c2), .val (.int c3), .val (.ref ss), .val (.int (0 : Int32)), .val (.int c3), .val (.int (0 : Int32))] (D at_177) rfl ?_
            refine X3171.aload (x := (.ref ss)) (D at_179) rfl rfl ?_
            refine X3171.calls [(.ref ss)] [] (ctIS4 l Z a0 hw hEL z0 S0 hz0 SA1 SH SL fm hfm SF ss c0 c1 c2 c3 _ _ F3173 r0 r1 r2 r3) (w 30 rfl) (w 31 rfl) (w 32 rfl) (w 33 rfl) (by decide) (fun _ q => nomatch q) (by decide) 0 (by decide) (by decide) (by decide) (lenOf pd_18 rfl) rfl (leb rfl) (by rw [hml]; rfl) (D at_181) ?_
            rintro T3177 h3178 _ X3180 K3181 (⟨rfl, hc3176⟩ | ⟨rfl, hc3176⟩)
            · have F3182 := F3173.keep K3181
              show Goes p.tables e below _ (T3177.setTop (mkF m 184 #[.val (.int p0), .val (.int p1), .val (.int p2), .val (.int p3), .val (.int p4), .val (.int (4 : Int32)), .val (.int c0), .val (.int c1), .val (.int c2), .val (.int c3), .val (.ref ss), .val (.int (0 : Int32)), .val (.int c3), .val (.int (0 : Int32))] [(.int (1 : Int32))]))
              refine X3180.iload (x := (0 : Int32)) (D at_184) rfl ?_
              refine X3180.icmp_ne 193 (D at_186) ⟨by decide, by decide⟩ (fun hc3183 => ?_) (fun hc3183 => absurd hc3183 (by decide))
              refine X3180.iconst (x := (0 : Int32)) (D at_193) rfl ?_
              exact absurd hc3176 (fun q => hc3167 (q.2.2.2.2.2))
            · have F3182 := F3173.keep K3181
              show Goes p.tables e below _ (T3177.setTop (mkF m 184 #[.val (.int p0), .val (.int p1), .val (.int p2), .val (.int p3), .val (.int p4), .val (.int (4 : Int32)), .val (.int c0), .val (.int c1), .val (.int c2), .val (.int c3), .val (.ref ss), .val (.int (0 : Int32)), .val (.int c3), .val (.int (0 : Int32))] [(.int (0 : Int32))]))
              refine X3180.iload (x := (0 : Int32)) (D at_184) rfl ?_
              refine X3180.icmp_ne 193 (D at_186) ⟨by decide, by decide⟩ (fun hc3184 => absurd hc3184 (by decide)) (fun hc3184 => ?_)
              refine X3180.iconst (x := (1 : Int32)) (D at_189) rfl ?_
              refine X3180.goto 194 (D at_190) ⟨by decide, by decide⟩ ?_
              exact X3180.reti hret (by simp) hlk (D at_194) (by decide) (by decide) (rfl)
        · have F3153 := F3133.keep K3152
          show Goes p.tables e below _ (T3148.setTop (mkF m 129 #[.val (.int p0), .val (.int p1), .val (.int p2), .val (.int p3), .val (.int p4), .val (.int (4 : Int32)), .val (.int c0), .val (.int c1), .val (.int c2), .val (.int c3), .val (.ref ss), .unset, .val (.int c3), .unset] [(.int (0 : Int32))]))
          refine X3151.if_eq 150 (D at_129) ⟨by decide, by decide⟩ (fun hc3154 => ?_) (fun hc3154 => absurd hc3154 (by decide))
          refine X3151.iconst (x := (0 : Int32)) (D at_150) rfl ?_
          refine X3151.istore #[.val (.int p0), .val (.int p1), .val (.int p2), .val (.int p3), .val (.int p4), .val (.int (4 : Int32)), .val (.int c0), .val (.int c1), .val (.int c2), .val (.int c3), .val (.ref ss), .unset, .val (.int c3), .val (.int (0 : Int32))] (D at_151) rfl ?_
          refine X3151.iload (x := (0 : Int32)) (D at_153) rfl ?_
          refine X3151.if_eq 176 (D at_155) ⟨by decide, by decide⟩ (fun hc3155 => ?_) (fun hc3155 => absurd hc3155 (by decide))
          refine X3151.iconst (x := (0 : Int32)) (D at_176) rfl ?_
          refine X3151.istore #[.val (.int p0), .val (.int p1), .val (.int p2), .val (.int p3), .val (.int p4), .val (.int (4 : Int32)), .val (.int c0), .val (.int c1), .val (.int c2), .val (.int c3), .val (.ref ss), .val (.int (0 : Int32)), .val (.int c3), .val (.int (0 : Int32))] (D at_177) rfl ?_
          refine X3151.aload (x := (.ref ss)) (D at_179) rfl rfl ?_
          refine X3151.calls [(.ref ss)] [] (ctIS4 l Z a0 hw hEL z0 S0 hz0 SA1 SH SL fm hfm SF ss c0 c1 c2 c3 _ _ F3153 r0 r1 r2 r3) (w 30 rfl) (w 31 rfl) (w 32 rfl) (w 33 rfl) (by decide) (fun _ q => nomatch q) (by decide) 0 (by decide) (by decide) (by decide) (lenOf pd_18 rfl) rfl (leb rfl) (by rw [hml]; rfl) (D at_181) ?_
          rintro T3157 h3158 _ X3160 K3161 (⟨rfl, hc3156⟩ | ⟨rfl, hc3156⟩)
          · have F3162 := F3153.keep K3161
            show Goes p.tables e below _ (T3157.setTop (mkF m 184 #[.val (.int p0), .val (.int p1), .val (.int p2), .val (.int p3), .val (.int p4), .val (.int (4 : Int32)), .val (.int c0), .val (.int c1), .val (.int c2), .val (.int c3), .val (.ref ss), .val (.int (0 : Int32)), .val (.int c3), .val (.int (0 : Int32))] [(.int (1 : Int32))]))
            refine X3160.iload (x := (0 : Int32)) (D at_184) rfl ?_
            refine X3160.icmp_ne 193 (D at_186) ⟨by decide, by decide⟩ (fun hc3163 => ?_) (fun hc3163 => absurd hc3163 (by decide))
            refine X3160.iconst (x := (0 : Int32)) (D at_193) rfl ?_
            exact absurd hc3156 (fun q => hc3147 (q.2.2.2.2.1))
          · have F3162 := F3153.keep K3161
            show Goes p.tables e below _ (T3157.setTop (mkF m 184 #[.val (.int p0), .val (.int p1), .val (.int p2), .val (.int p3), .val (.int p4), .val (.int (4 : Int32)), .val (.int c0), .val (.int c1), .val (.int c2), .val (.int c3), .val (.ref ss), .val (.int (0 : Int32)), .val (.int c3), .val (.int (0 : Int32))] [(.int (0 : Int32))]))
            refine X3160.iload (x := (0 : Int32)) (D at_184) rfl ?_
            refine X3160.icmp_ne 193 (D at_186) ⟨by decide, by decide⟩ (fun hc3164 => absurd hc3164 (by decide)) (fun hc3164 => ?_)
            refine X3160.iconst (x := (1 : Int32)) (D at_189) rfl ?_
            refine X3160.goto 194 (D at_190) ⟨by decide, by decide⟩ ?_
            exact X3160.reti hret (by simp) hlk (D at_194) (by decide) (by decide) (rfl)
      · have F3133 := F3113.keep K3132
        show Goes p.tables e below _ (T3128.setTop (mkF m 115 #[.val (.int p0), .val (.int p1), .val (.int p2), .val (.int p3), .val (.int p4), .val (.int (4 : Int32)), .val (.int c0), .val (.int c1), .val (.int c2), .val (.int c3), .val (.ref ss), .unset, .val (.int c3), .unset] [(.int (0 : Int32))]))
        refine X3131.if_eq 150 (D at_115) ⟨by decide, by decide⟩ (fun hc3134 => ?_) (fun hc3134 => absurd hc3134 (by decide))
        refine X3131.iconst (x := (0 : Int32)) (D at_150) rfl ?_
        refine X3131.istore #[.val (.int p0), .val (.int p1), .val (.int p2), .val (.int p3), .val (.int p4), .val (.int (4 : Int32)), .val (.int c0), .val (.int c1), .val (.int c2), .val (.int c3), .val (.ref ss), .unset, .val (.int c3), .val (.int (0 : Int32))] (D at_151) rfl ?_
        refine X3131.iload (x := (0 : Int32)) (D at_153) rfl ?_
        refine X3131.if_eq 176 (D at_155) ⟨by decide, by decide⟩ (fun hc3135 => ?_) (fun hc3135 => absurd hc3135 (by decide))
        refine X3131.iconst (x := (0 : Int32)) (D at_176) rfl ?_
        refine X3131.istore #[.val (.int p0), .val (.int p1), .val (.int p2), .val (.int p3), .val (.int p4), .val (.int (4 : Int32)), .val (.int c0), .val (.int c1), .val (.int c2), .val (.int c3), .val (.ref ss), .val (.int (0 : Int32)), .val (.int c3), .val (.int (0 : Int32))] (D at_177) rfl ?_
        refine X3131.aload (x := (.ref ss)) (D at_179) rfl rfl ?_
        refine X3131.calls [(.ref ss)] [] (ctIS4 l Z a0 hw hEL z0 S0 hz0 SA1 SH SL fm hfm SF ss c0 c1 c2 c3 _ _ F3133 r0 r1 r2 r3) (w 30 rfl) (w 31 rfl) (w 32 rfl) (w 33 rfl) (by decide) (fun _ q => nomatch q) (by decide) 0 (by decide) (by decide) (by decide) (lenOf pd_18 rfl) rfl (leb rfl) (by rw [hml]; rfl) (D at_181) ?_
        rintro T3137 h3138 _ X3140 K3141 (⟨rfl, hc3136⟩ | ⟨rfl, hc3136⟩)
        · have F3142 := F3133.keep K3141
          show Goes p.tables e below _ (T3137.setTop (mkF m 184 #[.val (.int p0), .val (.int p1), .val (.int p2), .val (.int p3), .val (.int p4), .val (.int (4 : Int32)), .val (.int c0), .val (.int c1), .val (.int c2), .val (.int c3), .val (.ref ss), .val (.int (0 : Int32)), .val (.int c3), .val (.int (0 : Int32))] [(.int (1 : Int32))]))
          refine X3140.iload (x := (0 : Int32)) (D at_184) rfl ?_
          refine X3140.icmp_ne 193 (D at_186) ⟨by decide, by decide⟩ (fun hc3143 => ?_) (fun hc3143 => absurd hc3143 (by decide))
          refine X3140.iconst (x := (0 : Int32)) (D at_193) rfl ?_
          exact absurd hc3136 (fun q => hc3127 (q.2.2.2.1))
        · have F3142 := F3133.keep K3141
          show Goes p.tables e below _ (T3137.setTop (mkF m 184 #[.val (.int p0), .val (.int p1), .val (.int p2), .val (.int p3), .val (.int p4), .val (.int (4 : Int32)), .val (.int c0), .val (.int c1), .val (.int c2), .val (.int c3), .val (.ref ss), .val (.int (0 : Int32)), .val (.int c3), .val (.int (0 : Int32))] [(.int (0 : Int32))]))
          refine X3140.iload (x := (0 : Int32)) (D at_184) rfl ?_
          refine X3140.icmp_ne 193 (D at_186) ⟨by decide, by decide⟩ (fun hc3144 => absurd hc3144 (by decide)) (fun hc3144 => ?_)
          refine X3140.iconst (x := (1 : Int32)) (D at_189) rfl ?_
          refine X3140.goto 194 (D at_190) ⟨by decide, by decide⟩ ?_
          exact X3140.reti hret (by simp) hlk (D at_194) (by decide) (by decide) (rfl)
    · have F3113 := W0.keep K3112
      show Goes p.tables e below _ (T3108.setTop (mkF m 101 #[.val (.int p0), .val (.int p1), .val (.int p2), .val (.int p3), .val (.int p4), .val (.int (4 : Int32)), .val (.int c0), .val (.int c1), .val (.int c2), .val (.int c3), .val (.ref ss), .unset, .val (.int c3), .unset] [(.int (0 : Int32))]))
      refine X3111.if_eq 150 (D at_101) ⟨by decide, by decide⟩ (fun hc3114 => ?_) (fun hc3114 => absurd hc3114 (by decide))
      refine X3111.iconst (x := (0 : Int32)) (D at_150) rfl ?_
      refine X3111.istore #[.val (.int p0), .val (.int p1), .val (.int p2), .val (.int p3), .val (.int p4), .val (.int (4 : Int32)), .val (.int c0), .val (.int c1), .val (.int c2), .val (.int c3), .val (.ref ss), .unset, .val (.int c3), .val (.int (0 : Int32))] (D at_151) rfl ?_
      refine X3111.iload (x := (0 : Int32)) (D at_153) rfl ?_
      refine X3111.if_eq 176 (D at_155) ⟨by decide, by decide⟩ (fun hc3115 => ?_) (fun hc3115 => absurd hc3115 (by decide))
      refine X3111.iconst (x := (0 : Int32)) (D at_176) rfl ?_
      refine X3111.istore #[.val (.int p0), .val (.int p1), .val (.int p2), .val (.int p3), .val (.int p4), .val (.int (4 : Int32)), .val (.int c0), .val (.int c1), .val (.int c2), .val (.int c3), .val (.ref ss), .val (.int (0 : Int32)), .val (.int c3), .val (.int (0 : Int32))] (D at_177) rfl ?_
      refine X3111.aload (x := (.ref ss)) (D at_179) rfl rfl ?_
      refine X3111.calls [(.ref ss)] [] (ctIS4 l Z a0 hw hEL z0 S0 hz0 SA1 SH SL fm hfm SF ss c0 c1 c2 c3 _ _ F3113 r0 r1 r2 r3) (w 30 rfl) (w 31 rfl) (w 32 rfl) (w 33 rfl) (by decide) (fun _ q => nomatch q) (by decide) 0 (by decide) (by decide) (by decide) (lenOf pd_18 rfl) rfl (leb rfl) (by rw [hml]; rfl) (D at_181) ?_
      rintro T3117 h3118 _ X3120 K3121 (⟨rfl, hc3116⟩ | ⟨rfl, hc3116⟩)
      · have F3122 := F3113.keep K3121
        show Goes p.tables e below _ (T3117.setTop (mkF m 184 #[.val (.int p0), .val (.int p1), .val (.int p2), .val (.int p3), .val (.int p4), .val (.int (4 : Int32)), .val (.int c0), .val (.int c1), .val (.int c2), .val (.int c3), .val (.ref ss), .val (.int (0 : Int32)), .val (.int c3), .val (.int (0 : Int32))] [(.int (1 : Int32))]))
        refine X3120.iload (x := (0 : Int32)) (D at_184) rfl ?_
        refine X3120.icmp_ne 193 (D at_186) ⟨by decide, by decide⟩ (fun hc3123 => ?_) (fun hc3123 => absurd hc3123 (by decide))
        refine X3120.iconst (x := (0 : Int32)) (D at_193) rfl ?_
        exact absurd hc3116 (fun q => hc3107 (q.2.2.1))
      · have F3122 := F3113.keep K3121
        show Goes p.tables e below _ (T3117.setTop (mkF m 184 #[.val (.int p0), .val (.int p1), .val (.int p2), .val (.int p3), .val (.int p4), .val (.int (4 : Int32)), .val (.int c0), .val (.int c1), .val (.int c2), .val (.int c3), .val (.ref ss), .val (.int (0 : Int32)), .val (.int c3), .val (.int (0 : Int32))] [(.int (0 : Int32))]))
        refine X3120.iload (x := (0 : Int32)) (D at_184) rfl ?_
        refine X3120.icmp_ne 193 (D at_186) ⟨by decide, by decide⟩ (fun hc3124 => absurd hc3124 (by decide)) (fun hc3124 => ?_)
        refine X3120.iconst (x := (1 : Int32)) (D at_189) rfl ?_
        refine X3120.goto 194 (D at_190) ⟨by decide, by decide⟩ ?_
        exact X3120.reti hret (by simp) hlk (D at_194) (by decide) (by decide) (rfl)
set_option maxRecDepth 65536 in
set_option maxHeartbeats 40000000 in
theorem comes_1 {Post : Tables → Env → Array Value → State → Outcome → State → Prop} (hpost : ∀ tb e args s v u, (limb_1_1.after args s (.returned v) u = true ∧ limb_1_2.after args s (.returned v) u = true ∧ True) → ReturnedEndW s (.returned v) u (Jvm.fieldLocs frame_1_writes args s ++ Jvm.arrayLocs frame_1_arrays args s ++ Jvm.staticLocs frame_1_statics s) room_1.cells room_1.slots → Post tb e args s (.returned v) u) :
    ArmFor flags0 classFile x code maxLocals ret World_1 tables_1 room_1 Calls_1 rest_1 Pre_1 Post := by
  intro l hfl _ _ p e ha hc hk s m args below hf hA hF happ hP
  obtain ⟨hcalls, hrest, hpre⟩ := hP
  obtain ⟨-, -, -, hnamed, -, -, -, hat⟩ := (Spec.applies_iff hf).mp happ
  obtain ⟨hg, hn⟩ := and_e (Cond.before_iff.mp (show (Jvm.Cond.and given_1 narrow_1).before args s = true from hpre))
  obtain ⟨g0, hg0⟩ := and_e hg
  obtain ⟨g1, hg1⟩ := and_e hg0
  obtain ⟨g2, hg2⟩ := and_e hg1
  obtain ⟨g3, hg3⟩ := and_e hg2
  obtain ⟨g4, hg4⟩ := and_e hg3
  obtain ⟨w0, w1, w2, w3, w4, rfl⟩ : ∃ w0 w1 w2 w3 w4 : Value, args = #[w0, w1, w2, w3, w4] := by
    have hs : args.size = 5 := by simpa [Cond.value, given_1] using g0
    obtain ⟨L⟩ := args
    match L, hs with
    | [w0, w1, w2, w3, w4], _ => exact ⟨w0, w1, w2, w3, w4, rfl⟩
  have hw := fun d (hd : d ∈ tables_1) => atoms_spec (ws := Jvm.Cond.code x code maxLocals ret :: tables_1) hat d (List.mem_cons_of_mem _ hd)
  have hfit : Fit s := fun {y c} hc i hi => by
    obtain ⟨ha, rfl⟩ := Array.getElem?_eq_some_iff.mp hc
    have q := List.all_eq_true.mp ((Array.all_eq_true_iff_forall_mem.mp hF) _ (Array.getElem_mem ha)) i (List.mem_range.mpr hi)
    simpa [Array.getElem?_eq_getElem hi] using q
  obtain ⟨hsets, hown0⟩ := atoms_of _ (rest_1_c_eq ▸ (show rest_1_c.before _ s = true from hrest))
  obtain ⟨p0, ep0⟩ := is_v g1
  obtain rfl : w0 = (.int p0) := Option.some.inj ep0
  obtain ⟨p1, ep1⟩ := is_v g2
  obtain rfl : w1 = (.int p1) := Option.some.inj ep1
  obtain ⟨p2, ep2⟩ := is_v g3
  obtain rfl : w2 = (.int p2) := Option.some.inj ep2
  obtain ⟨p3, ep3⟩ := is_v g4
  obtain rfl : w3 = (.int p3) := Option.some.inj ep3
  obtain ⟨p4, ep4⟩ := is_v hg4
  obtain rfl : w4 = (.int p4) := Option.some.inj ep4
  obtain ⟨z0, ez0⟩ := is_v (Cond.before_iff.mp (hsets (Jvm.Cond.isInt (.static "java/lang/String" "COMPACT_STRINGS" "Z")) (by decide +kernel)))
  have S0 : Sta s s.heap "java/lang/String" "COMPACT_STRINGS" "Z" (.int z0) := Sta.start ez0 (Or.inl (hsets (Jvm.Cond.initializedFor "java/lang/String" "COMPACT_STRINGS" "Z") (by decide +kernel)))
  have hcw := hsets (Jvm.Cond.not (.eq (.static "java/lang/String" "COMPACT_STRINGS" "Z") (.int (0 : Int32)))) (by decide +kernel)
  have hz0 : ¬ z0 = 0 := by
    have q1 := not_v (Cond.before_iff.mp hcw)
    intro q; subst q
    rw [eq_i ez0 (Term.int_eval (0 : Int32)) rfl] at q1; cases q1
  have hEL := hEL_of (Z := s) hw
  have H0 : CHv s consts_1 s.vm s.heap := CHv.start hEL (fun q hq => hcalls.1 q hq) hcw (hw _ (by decide +kernel)) (hw _ (by decide +kernel))
  have SA1 : Sta s s.heap "java/lang/StringUTF16" "$assertionsDisabled" "Z" (.int (1 : Int32)) := Sta.start (eqv_i (Term.int_eval (1 : Int32)) (Cond.before_iff.mp (hsets (Jvm.Cond.eq (.static "java/lang/StringUTF16" "$assertionsDisabled" "Z") (.int (1 : Int32))) (by decide +kernel)))) (Or.inl (hsets (Jvm.Cond.initializedFor "java/lang/StringUTF16" "$assertionsDisabled" "Z") (by decide +kernel)))
  have SH : Sta s s.heap "java/lang/StringUTF16" "HI_BYTE_SHIFT" "I" (.int (0 : Int32)) := Sta.start (eqv_i (Term.int_eval (0 : Int32)) (Cond.before_iff.mp (hsets (Jvm.Cond.eq (.static "java/lang/StringUTF16" "HI_BYTE_SHIFT" "I") (.int (0 : Int32))) (by decide +kernel)))) (Or.inl (hsets (Jvm.Cond.initializedFor "java/lang/StringUTF16" "HI_BYTE_SHIFT" "I") (by decide +kernel)))
  have SL : Sta s s.heap "java/lang/StringUTF16" "LO_BYTE_SHIFT" "I" (.int (8 : Int32)) := Sta.start (eqv_i (Term.int_eval (8 : Int32)) (Cond.before_iff.mp (hsets (Jvm.Cond.eq (.static "java/lang/StringUTF16" "LO_BYTE_SHIFT" "I") (.int (8 : Int32))) (by decide +kernel)))) (Or.inl (hsets (Jvm.Cond.initializedFor "java/lang/StringUTF16" "LO_BYTE_SHIFT" "I") (by decide +kernel)))
  obtain ⟨fm, efm, hfm⟩ := isR_v (Cond.before_iff.mp (hsets (Jvm.Cond.isRef (.static "jdk/internal/util/Preconditions" "SIOOBE_FORMATTER" "Ljava/util/function/BiFunction;")) (by decide +kernel)))
  have SF : Sta s s.heap "jdk/internal/util/Preconditions" "SIOOBE_FORMATTER" "Ljava/util/function/BiFunction;" fm := Sta.start efm (Or.inl (hsets (Jvm.Cond.initializedFor "jdk/internal/util/Preconditions" "SIOOBE_FORMATTER" "Ljava/util/function/BiFunction;") (by decide +kernel)))
  obtain ⟨n, o, h1, h2, h3, _, L, rfl, ⟨rfl, N, -, -⟩, -, hq⟩ := ctLaw l s _ hw hEL z0 S0 hz0 SA1 SH SL fm hfm SF p0 p1 p2 p3 p4  s.heap s.heap.size  p e ha hc hk s m _ below hf ((Spec.applies_iff_loose hf).mp happ).1 ⟨rfl, State.Warmed39.refl s, rfl, H0, Old.start s, fun _ q => nomatch q⟩ trivial
  exact ⟨n, _, h1, h2, h3, hpost _ _ _ _ _ _ ⟨Cond.after_iff.mpr rfl, Cond.after_iff.mpr (eq_i res_at (Term.int_eval (1)) rfl), trivial⟩ ⟨hq.1, hq.2.1, hq.2.2.1, (hq.2.2.2.sift fun y hy => Or.inr (N y hy))⟩⟩
theorem main_1_1 : Claimed_1_1 := comes_1 fun _ _ _ _ _ _ h hF => ⟨h.1, hF⟩
theorem main_1_2 : Claimed_1_2 := comes_1 fun _ _ _ _ _ _ h hF => ⟨h.2.1, hF⟩
end Jvm.Pilot.@@N@@
namespace Jvm.Pilot.@@N@@
open Jvm Jvm.ClassFile Sem Op Lib Jvm.Free Jvm.Stand Jvm.Pilot.@@N@@.Jvm.D
/-! MADE BY PROGRAM (witnessworld.py) out of the Statement's table words and the real class files: 20 classes; the members and pool entries that the words name. The judged class is class 1, her method 1. -/
namespace start1
open Jvm.ClassFile
def u (s : String) : CpInfo := .utf8 (stringToUtf16 s)
/-- a pool by its gaps: so many unusable entries, then the entry; so many at the end -/
def gap : Nat → List CpInfo → List CpInfo
  | 0, r => r
  | n + 1, r => .unusable :: gap n r
def poolList (es : List (Nat × CpInfo)) (last : Nat) : List CpInfo := es.foldr (fun e r => gap e.1 (e.2 :: r)) (gap last [])
def pool (es : List (Nat × CpInfo)) (last : Nat) : Array CpInfo := ⟨poolList es last⟩
def fileOf (pool : Array CpInfo) (this : Nat) (attrs : Array Attribute := #[]) (ms : Array MethodInfo := #[]) (fl : Nat := 33) (sup : Nat := 0) (ifs : Array Nat := #[]) (fds : Array FieldInfo := #[]) : ClassFile where
  minorVersion := 0
  majorVersion := 65
  constantPool := pool
  accessFlags := fl
  thisClass := this
  superClass := sup
  interfaces := ifs
  fields := fds
  methods := ms
  attributes := attrs
def plain (name : String) (sup : Option ClassId) : Class where
  name := name
  kind := .ordinary
  loader := none
  accessFlags := 33
  super := sup
  interfaces := #[]
  cf := none
  fields := #[]
  methods := #[]
  instanceTypes := #[]
  staticTypes := #[]
  resolved := #[]
  callSites := []
  init := .initialized
  statics := none
  mirror := none

def pool0 : Array CpInfo := pool [(5, u "<init>"), (0, u "()V"), (1, .class_ 10), (1, u "java/lang/Object")] 113

def k0c0 : Code := { maxStack := 0, maxLocals := 1, code := object_method_1_code, exceptionTable := #[], attributes := #[] }
def k0m0 : Method := { name := "<init>", desc := "()V", sig := { parameters := [], returnType := none }, accessFlags := 1, code := some k0c0 }
/-- java/lang/Object -/
def k0 : Class := { plain "java/lang/Object" none with
  accessFlags := 33
  interfaces := #[]
  cf := some (fileOf pool0 8 #[] #[{ accessFlags := 1, nameIndex := 5, descriptorIndex := 6, attributes := #[] }] 33 0 #[] #[])
  fields := #[]
  methods := #[k0m0]
  instanceTypes := #[]
  staticTypes := #[]
  resolved := Array.replicate 124 none
  statics := none }

def pool1 : Array CpInfo := pool [(2, .class_ 4), (1, u "java/lang/Object"), (0, u "<init>"), (0, u "()V"), (0, .integer 2147483647), (0, .methodref 9 10), (0, .class_ 11), (0, .nameAndType 12 13), (0, u "com/example/redelivery/redelivery/RedeliveryHeadersIsSendablePinLaw"), (0, u "draw"), (0, u "(I)C"), (0, .methodref 9 15), (0, .nameAndType 16 17), (0, u "make"), (0, u "(ICCCC)Ljava/lang/String;"), (0, .methodref 9 19), (0, .nameAndType 20 21), (0, u "ok"), (0, u "(C)Z"), (0, .methodref 23 24), (0, .class_ 25), (0, .nameAndType 26 27), (0, u "com/example/redelivery/redelivery/RedeliveryHeaders"), (0, u "isSendable"), (0, u "(Ljava/lang/String;)Z"), (0, .class_ 29), (0, u "java/lang/String"), (0, .methodref 28 31), (0, .nameAndType 5 32), (0, u "([C)V"), (2, u "law"), (0, u "(IIIII)Z")] 3

def k1m0 : Method := { name := "<init>", desc := "()V", sig := { parameters := [], returnType := none }, accessFlags := 2, code := none }
def k1c1 : Code := { maxStack := 5, maxLocals := 14, code := code, exceptionTable := #[], attributes := #[] }
def k1m1 : Method := { name := "law", desc := "(IIIII)Z", sig := { parameters := [.int, .int, .int, .int, .int], returnType := some .boolean }, accessFlags := 9, code := some k1c1 }
def k1c2 : Code := { maxStack := 2, maxLocals := 1, code := method_3_code, exceptionTable := #[], attributes := #[] }
def k1m2 : Method := { name := "draw", desc := "(I)C", sig := { parameters := [.int], returnType := some .char }, accessFlags := 10, code := some k1c2 }
def k1c3 : Code := { maxStack := 2, maxLocals := 1, code := method_4_code, exceptionTable := #[], attributes := #[] }
def k1m3 : Method := { name := "ok", desc := "(C)Z", sig := { parameters := [.char], returnType := some .boolean }, accessFlags := 10, code := some k1c3 }
def k1c4 : Code := { maxStack := 6, maxLocals := 5, code := method_5_code, exceptionTable := #[], attributes := #[] }
def k1m4 : Method := { name := "make", desc := "(ICCCC)Ljava/lang/String;", sig := { parameters := [.int, .char, .char, .char, .char], returnType := some (.object "java/lang/String") }, accessFlags := 10, code := some k1c4 }
/-- com/example/redelivery/redelivery/RedeliveryHeadersIsSendablePinLaw -/
def k1 : Class := { plain "com/example/redelivery/redelivery/RedeliveryHeadersIsSendablePinLaw" (some 0) with
  accessFlags := 49
  interfaces := #[]
  cf := some (fileOf pool1 9 #[] #[{ accessFlags := 2, nameIndex := 5, descriptorIndex := 6, attributes := #[] }, { accessFlags := 9, nameIndex := 35, descriptorIndex := 36, attributes := #[] }, { accessFlags := 10, nameIndex := 12, descriptorIndex := 13, attributes := #[] }, { accessFlags := 10, nameIndex := 20, descriptorIndex := 21, attributes := #[] }, { accessFlags := 10, nameIndex := 16, descriptorIndex := 17, attributes := #[] }] 49 2 #[] #[])
  fields := #[]
  methods := #[k1m0, k1m1, k1m2, k1m3, k1m4]
  instanceTypes := #[]
  staticTypes := #[]
  resolved := Array.replicate 40 none
  statics := none }

def pool2 : Array CpInfo := pool [(1, .class_ 2), (0, u "java/io/Serializable"), (0, .class_ 4), (0, u "java/lang/Object")] 2

/-- java/io/Serializable -/
def k2 : Class := { plain "java/io/Serializable" (some 0) with
  accessFlags := 1537
  interfaces := #[]
  cf := some (fileOf pool2 1 #[] #[] 1537 3 #[] #[])
  fields := #[]
  methods := #[]
  instanceTypes := #[]
  staticTypes := #[]
  resolved := Array.replicate 7 none
  statics := none }

def pool3 : Array CpInfo := pool [(1, .class_ 2), (0, u "java/lang/Comparable"), (0, .class_ 4), (0, u "java/lang/Object")] 7

/-- java/lang/Comparable -/
def k3 : Class := { plain "java/lang/Comparable" (some 0) with
  accessFlags := 1537
  interfaces := #[]
  cf := some (fileOf pool3 1 #[] #[] 1537 3 #[] #[])
  fields := #[]
  methods := #[]
  instanceTypes := #[]
  staticTypes := #[]
  resolved := Array.replicate 12 none
  statics := none }

def pool4 : Array CpInfo := pool [(2, .class_ 4), (1, u "java/lang/CharSequence"), (42, .class_ 48), (0, u "java/lang/CharSequence$1CodePointIterator"), (10, .class_ 60), (0, u "java/lang/CharSequence$1CharIterator"), (5, .class_ 67), (0, u "java/lang/Object")] 63

/-- java/lang/CharSequence -/
def k4 : Class := { plain "java/lang/CharSequence" (some 0) with
  accessFlags := 1537
  interfaces := #[]
  cf := some (fileOf pool4 2 #[.nestMembers #[47, 59]] #[] 1537 66 #[] #[])
  fields := #[]
  methods := #[]
  instanceTypes := #[]
  staticTypes := #[]
  resolved := Array.replicate 131 none
  statics := none }

def pool5 : Array CpInfo := pool [(1, .class_ 2), (0, u "java/lang/constant/Constable"), (0, .class_ 4), (0, u "java/lang/Object")] 6

/-- java/lang/constant/Constable -/
def k5 : Class := { plain "java/lang/constant/Constable" (some 0) with
  accessFlags := 1537
  interfaces := #[]
  cf := some (fileOf pool5 1 #[] #[] 1537 3 #[] #[])
  fields := #[]
  methods := #[]
  instanceTypes := #[]
  staticTypes := #[]
  resolved := Array.replicate 11 none
  statics := none }

def pool6 : Array CpInfo := pool [(1, .class_ 2), (0, u "java/lang/constant/ConstantDesc"), (0, .class_ 4), (0, u "java/lang/Object")] 32

/-- java/lang/constant/ConstantDesc -/
def k6 : Class := { plain "java/lang/constant/ConstantDesc" (some 0) with
  accessFlags := 1537
  interfaces := #[]
  cf := some (fileOf pool6 1 #[] #[] 1537 3 #[] #[])
  fields := #[]
  methods := #[]
  instanceTypes := #[]
  staticTypes := #[]
  resolved := Array.replicate 37 none
  statics := none }

def pool7 : Array CpInfo := pool [(1, .methodref 2 3), (0, .class_ 4), (0, .nameAndType 5 6), (0, u "java/lang/Object"), (0, u "<init>"), (0, u "()V"), (0, .string 8), (0, u ""), (0, .fieldref 10 11), (0, .class_ 12), (0, .nameAndType 13 14), (0, u "java/lang/String"), (0, u "value"), (0, u "[B"), (0, .fieldref 10 16), (0, .nameAndType 17 18), (0, u "coder"), (0, u "B"), (2, u "hash"), (0, u "I"), (2, u "hashIsZero"), (0, u "Z"), (0, .methodref 10 28), (0, .nameAndType 5 29), (0, u "([CIILjava/lang/Void;)V"), (8, .fieldref 10 39), (0, .nameAndType 40 26), (0, u "COMPACT_STRINGS"), (1, .class_ 44), (1, u "java/lang/StringUTF16"), (0, u "compress"), (1, .methodref 42 48), (0, .nameAndType 49 50), (0, u "coderFromArrayLen"), (0, u "([BI)B"), (56, .class_ 109), (1, u "java/lang/StringLatin1"), (32, u "()Z"), (34, .methodref 42 178), (0, .nameAndType 45 179), (0, u "([CII)[B"), (154, u "()I"), (0, .methodref 10 336), (0, .nameAndType 17 337), (0, u "()B"), (25, u "([BI)C"), (27, u "(II)V"), (35, u "(I)C"), (64, .methodref 10 493), (0, .nameAndType 494 142), (0, u "isLatin1"), (0, .methodref 107 496), (0, .nameAndType 497 363), (0, u "charAt"), (0, .methodref 42 496), (2, u "checkIndex"), (5, u "length"), (67, .class_ 576), (0, u "java/lang/CharSequence"), (22, u "CASE_INSENSITIVE_ORDER"), (0, u "Ljava/util/Comparator;"), (91, u "isEmpty"), (317, u "([C)V"), (42, .fieldref 1054 1055), (0, .class_ 1056), (0, .nameAndType 1057 1058), (0, u "jdk/internal/util/Preconditions"), (0, u "SIOOBE_FORMATTER"), (0, u "Ljava/util/function/BiFunction;"), (0, .methodref 1054 1060), (0, .nameAndType 501 1061), (0, u "(IILjava/util/function/BiFunction;)I"), (39, u "serialPersistentFields"), (0, u "[Ljava/io/ObjectStreamField;"), (0, .class_ 1104), (0, u "java/lang/String$CaseInsensitiveComparator"), (1, .class_ 1107), (0, u "java/io/Serializable"), (0, .class_ 1109), (0, u "java/lang/Comparable"), (0, .class_ 1111), (0, u "java/lang/constant/Constable"), (0, .class_ 1113), (0, u "java/lang/constant/ConstantDesc"), (2, u "serialVersionUID"), (0, u "J"), (3, u "REPL"), (0, u "C"), (2, u "LATIN1"), (1, u "UTF16")] 323

def k7m0 : Method := { name := "<init>", desc := "()V", sig := { parameters := [], returnType := none }, accessFlags := 1, code := none }
def k7c1 : Code := { maxStack := 5, maxLocals := 2, code := jdk_42_method_3_code, exceptionTable := #[], attributes := #[] }
def k7m1 : Method := { name := "<init>", desc := "([C)V", sig := { parameters := [(.array .char)], returnType := none }, accessFlags := 1, code := some k7c1 }
def k7c2 : Code := { maxStack := 2, maxLocals := 1, code := jdk_42_method_54_code, exceptionTable := #[], attributes := #[] }
def k7m2 : Method := { name := "length", desc := "()I", sig := { parameters := [], returnType := some .int }, accessFlags := 1, code := some k7c2 }
def k7c3 : Code := { maxStack := 1, maxLocals := 1, code := jdk_42_method_55_code, exceptionTable := #[], attributes := #[] }
def k7m3 : Method := { name := "isEmpty", desc := "()Z", sig := { parameters := [], returnType := some .boolean }, accessFlags := 1, code := some k7c3 }
def k7c4 : Code := { maxStack := 2, maxLocals := 2, code := jdk_42_method_56_code, exceptionTable := #[], attributes := #[] }
def k7m4 : Method := { name := "charAt", desc := "(I)C", sig := { parameters := [.int], returnType := some .char }, accessFlags := 1, code := some k7c4 }
def k7c5 : Code := { maxStack := 4, maxLocals := 6, code := jdk_42_method_149_code, exceptionTable := #[], attributes := #[] }
def k7m5 : Method := { name := "<init>", desc := "([CIILjava/lang/Void;)V", sig := { parameters := [(.array .char), .int, .int, (.object "java/lang/Void")], returnType := none }, accessFlags := 2, code := some k7c5 }
def k7c6 : Code := { maxStack := 1, maxLocals := 1, code := jdk_42_method_152_code, exceptionTable := #[], attributes := #[] }
def k7m6 : Method := { name := "coder", desc := "()B", sig := { parameters := [], returnType := some .byte }, accessFlags := 0, code := some k7c6 }
def k7c7 : Code := { maxStack := 1, maxLocals := 1, code := jdk_42_method_154_code, exceptionTable := #[], attributes := #[] }
def k7m7 : Method := { name := "isLatin1", desc := "()Z", sig := { parameters := [], returnType := some .boolean }, accessFlags := 0, code := some k7c7 }
def k7c8 : Code := { maxStack := 3, maxLocals := 2, code := jdk_42_method_155_code, exceptionTable := #[], attributes := #[] }
def k7m8 : Method := { name := "checkIndex", desc := "(II)V", sig := { parameters := [.int, .int], returnType := none }, accessFlags := 8, code := some k7c8 }
/-- java/lang/String -/
def k7 : Class := { plain "java/lang/String" (some 0) with
  accessFlags := 49
  interfaces := #[2, 3, 4, 5, 6]
  cf := some (fileOf pool7 10 #[.nestMembers #[1103]] #[{ accessFlags := 1, nameIndex := 5, descriptorIndex := 6, attributes := #[] }, { accessFlags := 1, nameIndex := 5, descriptorIndex := 1010, attributes := #[] }, { accessFlags := 1, nameIndex := 507, descriptorIndex := 334, attributes := #[] }, { accessFlags := 1, nameIndex := 692, descriptorIndex := 142, attributes := #[] }, { accessFlags := 1, nameIndex := 497, descriptorIndex := 427, attributes := #[] }, { accessFlags := 2, nameIndex := 5, descriptorIndex := 29, attributes := #[] }, { accessFlags := 0, nameIndex := 17, descriptorIndex := 337, attributes := #[] }, { accessFlags := 0, nameIndex := 494, descriptorIndex := 142, attributes := #[] }, { accessFlags := 8, nameIndex := 501, descriptorIndex := 391, attributes := #[] }] 49 2 #[1106, 1108, 575, 1110, 1112] #[{ accessFlags := 18, nameIndex := 13, descriptorIndex := 14, attributes := #[] }, { accessFlags := 18, nameIndex := 17, descriptorIndex := 18, attributes := #[] }, { accessFlags := 2, nameIndex := 21, descriptorIndex := 22, attributes := #[] }, { accessFlags := 2, nameIndex := 25, descriptorIndex := 26, attributes := #[] }, { accessFlags := 26, nameIndex := 1116, descriptorIndex := 1117, attributes := #[] }, { accessFlags := 24, nameIndex := 40, descriptorIndex := 26, attributes := #[] }, { accessFlags := 26, nameIndex := 1101, descriptorIndex := 1102, attributes := #[] }, { accessFlags := 26, nameIndex := 1121, descriptorIndex := 1122, attributes := #[] }, { accessFlags := 25, nameIndex := 599, descriptorIndex := 600, attributes := #[] }, { accessFlags := 24, nameIndex := 1125, descriptorIndex := 18, attributes := #[] }, { accessFlags := 24, nameIndex := 1127, descriptorIndex := 18, attributes := #[] }])
  fields := #[{ name := "value", type := (.array .byte), accessFlags := 18, slot := 0, constantValue := 0 }, { name := "coder", type := .byte, accessFlags := 18, slot := 1, constantValue := 0 }, { name := "hash", type := .int, accessFlags := 2, slot := 2, constantValue := 0 }, { name := "hashIsZero", type := .boolean, accessFlags := 2, slot := 3, constantValue := 0 }, { name := "serialVersionUID", type := .long, accessFlags := 26, slot := 0, constantValue := 0 }, { name := "COMPACT_STRINGS", type := .boolean, accessFlags := 24, slot := 1, constantValue := 0 }, { name := "serialPersistentFields", type := (.array (.object "java/io/ObjectStreamField")), accessFlags := 26, slot := 2, constantValue := 0 }, { name := "REPL", type := .char, accessFlags := 26, slot := 3, constantValue := 0 }, { name := "CASE_INSENSITIVE_ORDER", type := (.object "java/util/Comparator"), accessFlags := 25, slot := 4, constantValue := 0 }, { name := "LATIN1", type := .byte, accessFlags := 24, slot := 5, constantValue := 0 }, { name := "UTF16", type := .byte, accessFlags := 24, slot := 6, constantValue := 0 }]
  methods := #[k7m0, k7m1, k7m2, k7m3, k7m4, k7m5, k7m6, k7m7, k7m8]
  instanceTypes := #[(.array .byte), .byte, .int, .boolean]
  staticTypes := #[.long, .boolean, (.array (.object "java/io/ObjectStreamField")), .char, (.object "java/util/Comparator"), .byte, .byte]
  resolved := Array.replicate 1451 none
  statics := some 0 }

def pool8 : Array CpInfo := pool [(2, .class_ 4), (1, u "java/lang/Object"), (0, u "<init>"), (0, u "()V"), (17, .class_ 25), (0, u "com/example/redelivery/redelivery/RedeliveryHeaders"), (31, .methodref 58 59), (0, .class_ 60), (0, .nameAndType 61 62), (0, u "java/lang/String"), (0, u "isEmpty"), (0, u "()Z"), (0, .methodref 58 64), (0, .nameAndType 65 66), (0, u "charAt"), (0, u "(I)C"), (0, .methodref 58 68), (0, .nameAndType 69 70), (0, u "length"), (0, u "()I"), (0, u "TO"), (0, u "Ljava/lang/String;"), (3, u "TYPE"), (0, u "SENDER_MESSAGE_ID"), (2, u "ID"), (0, u "FROM"), (0, u "RECEIVED_AT"), (0, u "ATTEMPT"), (2, u "NOTICE_FOR"), (2, u "ALERT"), (9, u "isSendable"), (0, u "(Ljava/lang/String;)Z")] 2

def k8m0 : Method := { name := "<init>", desc := "()V", sig := { parameters := [], returnType := none }, accessFlags := 2, code := none }
def k8c1 : Code := { maxStack := 3, maxLocals := 3, code := prog_15_method_3_code, exceptionTable := #[], attributes := #[] }
def k8m1 : Method := { name := "isSendable", desc := "(Ljava/lang/String;)Z", sig := { parameters := [(.object "java/lang/String")], returnType := some .boolean }, accessFlags := 8, code := some k8c1 }
/-- com/example/redelivery/redelivery/RedeliveryHeaders -/
def k8 : Class := { plain "com/example/redelivery/redelivery/RedeliveryHeaders" (some 0) with
  accessFlags := 48
  interfaces := #[]
  cf := some (fileOf pool8 24 #[] #[{ accessFlags := 2, nameIndex := 5, descriptorIndex := 6, attributes := #[] }, { accessFlags := 8, nameIndex := 99, descriptorIndex := 100, attributes := #[] }] 48 2 #[] #[{ accessFlags := 24, nameIndex := 71, descriptorIndex := 72, attributes := #[] }, { accessFlags := 24, nameIndex := 76, descriptorIndex := 72, attributes := #[] }, { accessFlags := 24, nameIndex := 77, descriptorIndex := 72, attributes := #[] }, { accessFlags := 24, nameIndex := 80, descriptorIndex := 72, attributes := #[] }, { accessFlags := 24, nameIndex := 81, descriptorIndex := 72, attributes := #[] }, { accessFlags := 24, nameIndex := 82, descriptorIndex := 72, attributes := #[] }, { accessFlags := 24, nameIndex := 83, descriptorIndex := 72, attributes := #[] }, { accessFlags := 24, nameIndex := 86, descriptorIndex := 72, attributes := #[] }, { accessFlags := 24, nameIndex := 89, descriptorIndex := 72, attributes := #[] }])
  fields := #[{ name := "TO", type := (.object "java/lang/String"), accessFlags := 24, slot := 0, constantValue := 0 }, { name := "TYPE", type := (.object "java/lang/String"), accessFlags := 24, slot := 1, constantValue := 0 }, { name := "SENDER_MESSAGE_ID", type := (.object "java/lang/String"), accessFlags := 24, slot := 2, constantValue := 0 }, { name := "ID", type := (.object "java/lang/String"), accessFlags := 24, slot := 3, constantValue := 0 }, { name := "FROM", type := (.object "java/lang/String"), accessFlags := 24, slot := 4, constantValue := 0 }, { name := "RECEIVED_AT", type := (.object "java/lang/String"), accessFlags := 24, slot := 5, constantValue := 0 }, { name := "ATTEMPT", type := (.object "java/lang/String"), accessFlags := 24, slot := 6, constantValue := 0 }, { name := "NOTICE_FOR", type := (.object "java/lang/String"), accessFlags := 24, slot := 7, constantValue := 0 }, { name := "ALERT", type := (.object "java/lang/String"), accessFlags := 24, slot := 8, constantValue := 0 }]
  methods := #[k8m0, k8m1]
  instanceTypes := #[]
  staticTypes := #[(.object "java/lang/String"), (.object "java/lang/String"), (.object "java/lang/String"), (.object "java/lang/String"), (.object "java/lang/String"), (.object "java/lang/String"), (.object "java/lang/String"), (.object "java/lang/String"), (.object "java/lang/String")]
  resolved := Array.replicate 103 none
  statics := none }

def pool9 : Array CpInfo := pool [(3, .class_ 4), (0, u "java/lang/String"), (1, .class_ 8), (1, u "java/lang/Object"), (0, u "<init>"), (0, u "()V"), (0, .methodref 12 13), (0, .class_ 14), (0, .nameAndType 15 16), (0, u "java/lang/StringUTF16"), (0, u "newBytesLength"), (0, u "(I)I"), (3, .integer 1073741823), (23, .fieldref 12 45), (0, .nameAndType 46 47), (0, u "$assertionsDisabled"), (0, u "Z"), (0, .methodref 12 49), (0, .nameAndType 50 51), (0, u "length"), (0, u "([B)I"), (7, .fieldref 12 60), (0, .nameAndType 61 62), (0, u "HI_BYTE_SHIFT"), (0, u "I"), (0, .fieldref 12 64), (0, .nameAndType 65 62), (0, u "LO_BYTE_SHIFT"), (1, .methodref 12 68), (0, .nameAndType 69 70), (0, u "checkIndex"), (0, u "(I[B)V"), (0, .methodref 12 72), (0, .nameAndType 73 74), (0, u "getChar"), (0, u "([BI)C"), (32, .methodref 12 108), (0, .nameAndType 109 110), (0, u "newBytesFor"), (0, u "(I)[B"), (0, .methodref 12 112), (0, .nameAndType 113 114), (0, u "putChar"), (0, u "([BII)V"), (0, .methodref 12 116), (0, .nameAndType 117 118), (0, u "compress"), (0, u "([CI[BII)I"), (0, .methodref 12 120), (0, .nameAndType 121 122), (0, u "toBytes"), (0, u "([CII)[B"), (138, u "coderFromArrayLen"), (0, u "([BI)B"), (106, .class_ 371), (1, u "java/lang/StringUTF16$LinesSpliterator"), (20, u "charAt"), (21, .methodref 3 415), (0, .nameAndType 69 416), (0, u "(II)V"), (13, u "MAX_LENGTH"), (196, .class_ 628), (0, u "java/lang/StringUTF16$CodePointsSpliterator"), (0, .class_ 630), (0, u "java/lang/StringUTF16$CharsSpliterator")] 4

def k9m0 : Method := { name := "<init>", desc := "()V", sig := { parameters := [], returnType := none }, accessFlags := 0, code := none }
def k9c1 : Code := { maxStack := 1, maxLocals := 1, code := jdk_52_method_2_code, exceptionTable := #[], attributes := #[] }
def k9m1 : Method := { name := "newBytesFor", desc := "(I)[B", sig := { parameters := [.int], returnType := some (.array .byte) }, accessFlags := 9, code := some k9c1 }
def k9c2 : Code := { maxStack := 4, maxLocals := 1, code := jdk_52_method_3_code, exceptionTable := #[], attributes := #[] }
def k9m2 : Method := { name := "newBytesLength", desc := "(I)I", sig := { parameters := [.int], returnType := some .int }, accessFlags := 9, code := some k9c2 }
def k9c3 : Code := { maxStack := 4, maxLocals := 3, code := jdk_52_method_4_code, exceptionTable := #[], attributes := #[] }
def k9m3 : Method := { name := "putChar", desc := "([BII)V", sig := { parameters := [(.array .byte), .int, .int], returnType := none }, accessFlags := 8, code := some k9c3 }
def k9c4 : Code := { maxStack := 3, maxLocals := 2, code := jdk_52_method_5_code, exceptionTable := #[], attributes := #[] }
def k9m4 : Method := { name := "getChar", desc := "([BI)C", sig := { parameters := [(.array .byte), .int], returnType := some .char }, accessFlags := 8, code := some k9c4 }
def k9c5 : Code := { maxStack := 2, maxLocals := 1, code := jdk_52_method_6_code, exceptionTable := #[], attributes := #[] }
def k9m5 : Method := { name := "length", desc := "([B)I", sig := { parameters := [(.array .byte)], returnType := some .int }, accessFlags := 9, code := some k9c5 }
def k9c6 : Code := { maxStack := 4, maxLocals := 5, code := jdk_52_method_14_code, exceptionTable := #[], attributes := #[] }
def k9m6 : Method := { name := "toBytes", desc := "([CII)[B", sig := { parameters := [(.array .char), .int, .int], returnType := some (.array .byte) }, accessFlags := 9, code := some k9c6 }
def k9c7 : Code := { maxStack := 2, maxLocals := 2, code := jdk_52_method_15_code, exceptionTable := #[], attributes := #[] }
def k9m7 : Method := { name := "coderFromArrayLen", desc := "([BI)B", sig := { parameters := [(.array .byte), .int], returnType := some .byte }, accessFlags := 8, code := some k9c7 }
def k9c8 : Code := { maxStack := 5, maxLocals := 6, code := jdk_52_method_16_code, exceptionTable := #[], attributes := #[] }
def k9m8 : Method := { name := "compress", desc := "([CII)[B", sig := { parameters := [(.array .char), .int, .int], returnType := some (.array .byte) }, accessFlags := 9, code := some k9c8 }
def k9c9 : Code := { maxStack := 3, maxLocals := 7, code := jdk_52_method_21_code, exceptionTable := #[], attributes := #[] }
def k9m9 : Method := { name := "compress", desc := "([CI[BII)I", sig := { parameters := [(.array .char), .int, (.array .byte), .int, .int], returnType := some .int }, accessFlags := 9, code := some k9c9 }
def k9c10 : Code := { maxStack := 2, maxLocals := 2, code := jdk_52_method_83_code, exceptionTable := #[], attributes := #[] }
def k9m10 : Method := { name := "charAt", desc := "([BI)C", sig := { parameters := [(.array .byte), .int], returnType := some .char }, accessFlags := 9, code := some k9c10 }
def k9c11 : Code := { maxStack := 2, maxLocals := 2, code := jdk_52_method_91_code, exceptionTable := #[], attributes := #[] }
def k9m11 : Method := { name := "checkIndex", desc := "(I[B)V", sig := { parameters := [.int, (.array .byte)], returnType := none }, accessFlags := 9, code := some k9c11 }
/-- java/lang/StringUTF16 -/
def k9 : Class := { plain "java/lang/StringUTF16" (some 0) with
  accessFlags := 48
  interfaces := #[]
  cf := some (fileOf pool9 12 #[.nestMembers #[627, 629, 369]] #[{ accessFlags := 0, nameIndex := 9, descriptorIndex := 10, attributes := #[] }, { accessFlags := 9, nameIndex := 109, descriptorIndex := 110, attributes := #[] }, { accessFlags := 9, nameIndex := 15, descriptorIndex := 16, attributes := #[] }, { accessFlags := 8, nameIndex := 113, descriptorIndex := 114, attributes := #[] }, { accessFlags := 8, nameIndex := 73, descriptorIndex := 74, attributes := #[] }, { accessFlags := 9, nameIndex := 50, descriptorIndex := 51, attributes := #[] }, { accessFlags := 9, nameIndex := 121, descriptorIndex := 122, attributes := #[] }, { accessFlags := 8, nameIndex := 261, descriptorIndex := 262, attributes := #[] }, { accessFlags := 9, nameIndex := 117, descriptorIndex := 122, attributes := #[] }, { accessFlags := 9, nameIndex := 117, descriptorIndex := 118, attributes := #[] }, { accessFlags := 9, nameIndex := 392, descriptorIndex := 74, attributes := #[] }, { accessFlags := 9, nameIndex := 69, descriptorIndex := 70, attributes := #[] }] 48 6 #[] #[{ accessFlags := 26, nameIndex := 61, descriptorIndex := 62, attributes := #[] }, { accessFlags := 26, nameIndex := 65, descriptorIndex := 62, attributes := #[] }, { accessFlags := 24, nameIndex := 430, descriptorIndex := 62, attributes := #[] }, { accessFlags := 4120, nameIndex := 46, descriptorIndex := 47, attributes := #[] }])
  fields := #[{ name := "HI_BYTE_SHIFT", type := .int, accessFlags := 26, slot := 0, constantValue := 0 }, { name := "LO_BYTE_SHIFT", type := .int, accessFlags := 26, slot := 1, constantValue := 0 }, { name := "MAX_LENGTH", type := .int, accessFlags := 24, slot := 2, constantValue := 0 }, { name := "$assertionsDisabled", type := .boolean, accessFlags := 4120, slot := 3, constantValue := 0 }]
  methods := #[k9m0, k9m1, k9m2, k9m3, k9m4, k9m5, k9m6, k9m7, k9m8, k9m9, k9m10, k9m11]
  instanceTypes := #[]
  staticTypes := #[.int, .int, .int, .boolean]
  resolved := Array.replicate 635 none
  statics := some 1 }

def pool10 : Array CpInfo := pool [(1, .class_ 2), (0, u "java/lang/String"), (1, .class_ 6), (1, u "java/lang/Object"), (0, u "<init>"), (0, u "()V"), (0, .methodref 1 10), (0, .nameAndType 11 12), (0, u "checkIndex"), (0, u "(II)V"), (1, .class_ 16), (1, u "java/lang/StringLatin1"), (36, u "([BI)C"), (67, u "$assertionsDisabled"), (0, u "Z"), (98, .class_ 223), (1, u "java/lang/StringLatin1$LinesSpliterator"), (28, u "charAt"), (137, .class_ 391), (0, u "java/lang/StringLatin1$CharsSpliterator")] 3

def k10m0 : Method := { name := "<init>", desc := "()V", sig := { parameters := [], returnType := none }, accessFlags := 0, code := none }
def k10c1 : Code := { maxStack := 2, maxLocals := 2, code := jdk_43_method_2_code, exceptionTable := #[], attributes := #[] }
def k10m1 : Method := { name := "charAt", desc := "([BI)C", sig := { parameters := [(.array .byte), .int], returnType := some .char }, accessFlags := 9, code := some k10c1 }
/-- java/lang/StringLatin1 -/
def k10 : Class := { plain "java/lang/StringLatin1" (some 0) with
  accessFlags := 48
  interfaces := #[]
  cf := some (fileOf pool10 14 #[.nestMembers #[390, 221]] #[{ accessFlags := 0, nameIndex := 7, descriptorIndex := 8, attributes := #[] }, { accessFlags := 9, nameIndex := 252, descriptorIndex := 53, attributes := #[] }] 48 4 #[] #[{ accessFlags := 4120, nameIndex := 121, descriptorIndex := 122, attributes := #[] }])
  fields := #[{ name := "$assertionsDisabled", type := .boolean, accessFlags := 4120, slot := 0, constantValue := 0 }]
  methods := #[k10m0, k10m1]
  instanceTypes := #[]
  staticTypes := #[.boolean]
  resolved := Array.replicate 395 none
  statics := none }

def pool11 : Array CpInfo := pool [(2, .class_ 4), (1, u "java/lang/Object"), (0, u "<init>"), (0, u "()V"), (17, .class_ 26), (1, u "jdk/internal/util/Preconditions"), (6, u "checkIndex"), (21, .class_ 56), (0, u "jdk/internal/util/Preconditions$4"), (57, .class_ 115), (0, u "jdk/internal/util/Preconditions$1"), (7, u "SIOOBE_FORMATTER"), (0, u "Ljava/util/function/BiFunction;"), (0, .class_ 126), (0, u "jdk/internal/util/Preconditions$2"), (3, u "AIOOBE_FORMATTER"), (0, .class_ 132), (0, u "jdk/internal/util/Preconditions$3"), (3, u "IOOBE_FORMATTER"), (41, u "(IILjava/util/function/BiFunction;)I")] 15

def k11m0 : Method := { name := "<init>", desc := "()V", sig := { parameters := [], returnType := none }, accessFlags := 1, code := none }
def k11c1 : Code := { maxStack := 3, maxLocals := 3, code := jdk_41_method_11_code, exceptionTable := #[], attributes := #[] }
def k11m1 : Method := { name := "checkIndex", desc := "(IILjava/util/function/BiFunction;)I", sig := { parameters := [.int, .int, (.object "java/util/function/BiFunction")], returnType := some .int }, accessFlags := 9, code := some k11c1 }
/-- jdk/internal/util/Preconditions -/
def k11 : Class := { plain "jdk/internal/util/Preconditions" (some 0) with
  accessFlags := 33
  interfaces := #[]
  cf := some (fileOf pool11 24 #[.nestMembers #[55, 131, 125, 114]] #[{ accessFlags := 1, nameIndex := 5, descriptorIndex := 6, attributes := #[] }, { accessFlags := 9, nameIndex := 33, descriptorIndex := 178, attributes := #[] }] 33 2 #[] #[{ accessFlags := 25, nameIndex := 123, descriptorIndex := 124, attributes := #[] }, { accessFlags := 25, nameIndex := 130, descriptorIndex := 124, attributes := #[] }, { accessFlags := 25, nameIndex := 136, descriptorIndex := 124, attributes := #[] }])
  fields := #[{ name := "SIOOBE_FORMATTER", type := (.object "java/util/function/BiFunction"), accessFlags := 25, slot := 0, constantValue := 0 }, { name := "AIOOBE_FORMATTER", type := (.object "java/util/function/BiFunction"), accessFlags := 25, slot := 1, constantValue := 0 }, { name := "IOOBE_FORMATTER", type := (.object "java/util/function/BiFunction"), accessFlags := 25, slot := 2, constantValue := 0 }]
  methods := #[k11m0, k11m1]
  instanceTypes := #[]
  staticTypes := #[(.object "java/util/function/BiFunction"), (.object "java/util/function/BiFunction"), (.object "java/util/function/BiFunction")]
  resolved := Array.replicate 194 none
  statics := some 2 }

def pool12 : Array CpInfo := pool [(9, u "<init>"), (6, .class_ 18), (1, u "java/lang/Object"), (0, u "()V"), (1, .class_ 23), (1, u "jdk/internal/util/ArraysSupport"), (0, u "LOG2_ARRAY_LONG_INDEX_SCALE"), (0, u "I"), (2, u "U"), (0, u "Ljdk/internal/misc/Unsafe;"), (8, u "BIG_ENDIAN"), (0, u "Z"), (8, u "LOG2_BYTE_BIT_SIZE"), (4, u "LOG2_ARRAY_INT_INDEX_SCALE"), (54, u "JLA"), (0, u "Ljdk/internal/access/JavaLangAccess;"), (11, u "LOG2_ARRAY_BOOLEAN_INDEX_SCALE"), (9, u "LOG2_ARRAY_BYTE_INDEX_SCALE"), (5, u "LOG2_ARRAY_CHAR_INDEX_SCALE"), (5, u "LOG2_ARRAY_SHORT_INDEX_SCALE"), (18, u "LOG2_ARRAY_FLOAT_INDEX_SCALE"), (24, u "LOG2_ARRAY_DOUBLE_INDEX_SCALE"), (89, u "T_BOOLEAN"), (2, u "T_CHAR"), (1, u "T_FLOAT"), (1, u "T_DOUBLE"), (1, u "T_BYTE"), (1, u "T_SHORT"), (1, u "T_INT"), (1, u "T_LONG"), (1, u "SOFT_MAX_ARRAY_LENGTH")] 83

def k12m0 : Method := { name := "<init>", desc := "()V", sig := { parameters := [], returnType := none }, accessFlags := 2, code := none }
/-- jdk/internal/util/ArraysSupport -/
def k12 : Class := { plain "jdk/internal/util/ArraysSupport" (some 0) with
  accessFlags := 33
  interfaces := #[]
  cf := some (fileOf pool12 21 #[] #[{ accessFlags := 2, nameIndex := 9, descriptorIndex := 19, attributes := #[] }] 33 16 #[] #[{ accessFlags := 24, nameIndex := 28, descriptorIndex := 29, attributes := #[] }, { accessFlags := 26, nameIndex := 38, descriptorIndex := 39, attributes := #[] }, { accessFlags := 25, nameIndex := 121, descriptorIndex := 25, attributes := #[] }, { accessFlags := 25, nameIndex := 131, descriptorIndex := 25, attributes := #[] }, { accessFlags := 25, nameIndex := 137, descriptorIndex := 25, attributes := #[] }, { accessFlags := 25, nameIndex := 143, descriptorIndex := 25, attributes := #[] }, { accessFlags := 25, nameIndex := 53, descriptorIndex := 25, attributes := #[] }, { accessFlags := 25, nameIndex := 24, descriptorIndex := 25, attributes := #[] }, { accessFlags := 25, nameIndex := 162, descriptorIndex := 25, attributes := #[] }, { accessFlags := 25, nameIndex := 187, descriptorIndex := 25, attributes := #[] }, { accessFlags := 26, nameIndex := 48, descriptorIndex := 25, attributes := #[] }, { accessFlags := 25, nameIndex := 277, descriptorIndex := 25, attributes := #[] }, { accessFlags := 25, nameIndex := 280, descriptorIndex := 25, attributes := #[] }, { accessFlags := 25, nameIndex := 282, descriptorIndex := 25, attributes := #[] }, { accessFlags := 25, nameIndex := 284, descriptorIndex := 25, attributes := #[] }, { accessFlags := 25, nameIndex := 286, descriptorIndex := 25, attributes := #[] }, { accessFlags := 25, nameIndex := 288, descriptorIndex := 25, attributes := #[] }, { accessFlags := 25, nameIndex := 290, descriptorIndex := 25, attributes := #[] }, { accessFlags := 25, nameIndex := 292, descriptorIndex := 25, attributes := #[] }, { accessFlags := 26, nameIndex := 108, descriptorIndex := 109, attributes := #[] }, { accessFlags := 25, nameIndex := 294, descriptorIndex := 25, attributes := #[] }])
  fields := #[{ name := "U", type := (.object "jdk/internal/misc/Unsafe"), accessFlags := 24, slot := 0, constantValue := 0 }, { name := "BIG_ENDIAN", type := .boolean, accessFlags := 26, slot := 1, constantValue := 0 }, { name := "LOG2_ARRAY_BOOLEAN_INDEX_SCALE", type := .int, accessFlags := 25, slot := 2, constantValue := 0 }, { name := "LOG2_ARRAY_BYTE_INDEX_SCALE", type := .int, accessFlags := 25, slot := 3, constantValue := 0 }, { name := "LOG2_ARRAY_CHAR_INDEX_SCALE", type := .int, accessFlags := 25, slot := 4, constantValue := 0 }, { name := "LOG2_ARRAY_SHORT_INDEX_SCALE", type := .int, accessFlags := 25, slot := 5, constantValue := 0 }, { name := "LOG2_ARRAY_INT_INDEX_SCALE", type := .int, accessFlags := 25, slot := 6, constantValue := 0 }, { name := "LOG2_ARRAY_LONG_INDEX_SCALE", type := .int, accessFlags := 25, slot := 7, constantValue := 0 }, { name := "LOG2_ARRAY_FLOAT_INDEX_SCALE", type := .int, accessFlags := 25, slot := 8, constantValue := 0 }, { name := "LOG2_ARRAY_DOUBLE_INDEX_SCALE", type := .int, accessFlags := 25, slot := 9, constantValue := 0 }, { name := "LOG2_BYTE_BIT_SIZE", type := .int, accessFlags := 26, slot := 10, constantValue := 0 }, { name := "T_BOOLEAN", type := .int, accessFlags := 25, slot := 11, constantValue := 0 }, { name := "T_CHAR", type := .int, accessFlags := 25, slot := 12, constantValue := 0 }, { name := "T_FLOAT", type := .int, accessFlags := 25, slot := 13, constantValue := 0 }, { name := "T_DOUBLE", type := .int, accessFlags := 25, slot := 14, constantValue := 0 }, { name := "T_BYTE", type := .int, accessFlags := 25, slot := 15, constantValue := 0 }, { name := "T_SHORT", type := .int, accessFlags := 25, slot := 16, constantValue := 0 }, { name := "T_INT", type := .int, accessFlags := 25, slot := 17, constantValue := 0 }, { name := "T_LONG", type := .int, accessFlags := 25, slot := 18, constantValue := 0 }, { name := "JLA", type := (.object "jdk/internal/access/JavaLangAccess"), accessFlags := 26, slot := 19, constantValue := 0 }, { name := "SOFT_MAX_ARRAY_LENGTH", type := .int, accessFlags := 25, slot := 20, constantValue := 0 }]
  methods := #[k12m0]
  instanceTypes := #[]
  staticTypes := #[(.object "jdk/internal/misc/Unsafe"), .boolean, .int, .int, .int, .int, .int, .int, .int, .int, .int, .int, .int, .int, .int, .int, .int, .int, .int, (.object "jdk/internal/access/JavaLangAccess"), .int]
  resolved := Array.replicate 378 none
  statics := none }

def pool13 : Array CpInfo := pool [(1, u "java/lang/Cloneable"), (0, .class_ 1), (0, u "java/lang/Object"), (0, .class_ 3)] 3

/-- java/lang/Cloneable -/
def k13 : Class := { plain "java/lang/Cloneable" (some 0) with
  accessFlags := 1537
  interfaces := #[]
  cf := some (fileOf pool13 2 #[] #[] 1537 4 #[] #[])
  fields := #[]
  methods := #[]
  instanceTypes := #[]
  staticTypes := #[]
  resolved := Array.replicate 8 none
  statics := none }

/-- the primitive byte -/
def k14 : Class := { plain "byte" none with kind := .primitive 'B', accessFlags := 0x411 }
/-- [B -/
def k15 : Class := { plain "[B" (some 0) with kind := .array 14 .byte, interfaces := #[13, 2], accessFlags := 1041 }

/-- the primitive char -/
def k16 : Class := { plain "char" none with kind := .primitive 'C', accessFlags := 0x411 }
/-- [C -/
def k17 : Class := { plain "[C" (some 0) with kind := .array 16 .char, interfaces := #[13, 2], accessFlags := 1041 }

/-- the primitive int -/
def k18 : Class := { plain "int" none with kind := .primitive 'I', accessFlags := 0x411 }
/-- [I -/
def k19 : Class := { plain "[I" (some 0) with kind := .array 18 .int, interfaces := #[13, 2], accessFlags := 1041 }

def heap : Heap := #[{ cls := 7, slots := #[.long 0, .int 1, .null, .int 0, .null, .int 0, .int 0], vm := .statics 7 },
  { cls := 9, slots := #[.int 0, .int 8, .int 0, .int 1], vm := .statics 9 },
  { cls := 11, slots := #[.null, .null, .null], vm := .statics 11 }]
def classes : Array Class := #[k0, k1, k2, k3, k4, k5, k6, k7, k8, k9, k10, k11, k12, k13, k14, k15, k16, k17, k18, k19]
def interned : List (Array UInt16 × Addr) := []
def slotsUsed : Nat := 14
def theMethod : MethodId := ⟨1, 1⟩
def args0 : Array Value := #[.int 5, .int 5, .int 5, .int 5, .int 5]
def aboutOver (below : List Frame) : State where
  vm := { classes := classes, interned := interned.toArray }
  heap := heap
  slotsUsed := slotsUsed
  threads := #[{ frames := .invoking theMethod args0 :: below }]
def below0 : List Frame := [.native { method := ⟨0, 0⟩, args := #[] }]
def about1 : State := aboutOver below0
def p0 : Program := .bare "" "" ""
def e0 : Env := launch0.env 0 0 0
theorem w_frames : about1.frames = Frame.invoking theMethod args0 :: below0 := rfl
set_option maxRecDepth 65536 in
theorem w_args : argsFit about1.vm theMethod args0 = true := by decide +kernel
set_option maxRecDepth 65536 in
theorem w_heap : heapFits about1 = true := by decide +kernel
set_option maxRecDepth 65536 in
theorem w_runnable : about1.curStatus? = some .runnable := by decide +kernel
set_option maxRecDepth 65536 in
theorem w_alone : about1.alone = true := by decide +kernel
set_option maxRecDepth 65536 in
theorem w_named : about1.methodNamed? x = some theMethod := by decide +kernel
set_option maxRecDepth 65536 in
theorem w_hears : about1.hears theMethod below0 = true := by decide +kernel
set_option maxRecDepth 65536 in
theorem w_ripe : about1.ripe theMethod args0 below0 = true := by decide +kernel
theorem w_running : about1.status = .running := rfl
set_option maxRecDepth 65536 in
theorem w_room : about1.hasRoom e0.platform room_1 = true :=
  launch0.hasRoom_least _ room_1 (by decide +kernel) (by decide +kernel) (by decide +kernel) (by decide +kernel) (by decide +kernel) (by decide +kernel)
theorem allAtoms_all (ts : List Jvm.Cond) (a : Array Jvm.Value) (st : Jvm.State) : (allAtoms ts).before a st = ts.all (fun c => c.before a st) := by
  induction ts with
  | nil => rfl
  | cons c t ih =>
    show (Jvm.Cond.and c (allAtoms t)).before a st = _
    rw [Jvm.Cond.before_and, ih, List.all_cons]
def words1 : List Jvm.Cond := Jvm.Cond.code x code maxLocals ret :: tables_1
/-- a 'code' word, met by the world's own term for the bytes: nothing is compared byte by byte -/
theorem code_word {y : MethodName} {bytes : ByteArray} {mx : Nat} {rt : Option FieldType} {a : Array Value} {s : State} {m : MethodId} {meth : Method} {c : Code} (h1 : s.methodNamed? y = some m) (h2 : s.vm.method? m = some meth) (h3 : meth.code = some c) (h4 : c.code = bytes)
    (h5 : (c.maxLocals == mx && c.exceptionTable.isEmpty && decide (c.maxStack ≤ mostOperands) && decide (meth.sig.returnType = rt) && !meth.locks && decide (parseMethodDescriptor y.desc = some meth.sig)) = true) : (Jvm.Cond.code y bytes mx rt).before a s = true := by
  simp only [Bool.and_eq_true, beq_iff_eq, Bool.not_eq_true', decide_eq_true_eq] at h5
  obtain ⟨⟨⟨⟨⟨g1, g2⟩, g3⟩, g4⟩, g5⟩, g6⟩ := h5
  simp [Cond.before, Cond.holds, Cond.value, h1, h2, h3, h4, g1, g2, g3, g4, g5, g6]
def isCode : Jvm.Cond → Bool
  | .code _ _ _ _ => true
  | _ => false
theorem all_split {L : List Jvm.Cond} {P : Jvm.Cond → Bool} (h1 : L.all (fun c => isCode c || P c) = true) (h2 : ∀ c ∈ L.filter isCode, P c = true) : L.all P = true := by
  refine List.all_eq_true.mpr fun c hc => ?_
  have h := List.all_eq_true.mp h1 c hc
  rcases Bool.eq_false_or_eq_true (isCode c) with hi | hi
  · exact h2 c (List.mem_filter.mpr ⟨hc, hi⟩)
  · simpa [hi] using h
set_option maxRecDepth 65536 in
theorem w_c0 : (Jvm.Cond.code x code maxLocals ret).before args0 about1 = true := code_word (m := ⟨1, 1⟩) (meth := k1m1) (c := k1c1) (by decide +kernel) rfl rfl rfl (by decide +kernel)
set_option maxRecDepth 65536 in
theorem w_c1 : (Jvm.Cond.code ({ cls := "com/example/redelivery/redelivery/RedeliveryHeadersIsSendablePinLaw", name := "draw", desc := "(I)C" } : Jvm.MethodName) method_3_code (1 : Nat) (Option.some Jvm.ClassFile.FieldType.char)).before args0 about1 = true := code_word (m := ⟨1, 2⟩) (meth := k1m2) (c := k1c2) (by decide +kernel) rfl rfl rfl (by decide +kernel)
set_option maxRecDepth 65536 in
theorem w_c2 : (Jvm.Cond.code ({ cls := "com/example/redelivery/redelivery/RedeliveryHeadersIsSendablePinLaw", name := "make", desc := "(ICCCC)Ljava/lang/String;" } : Jvm.MethodName) method_5_code (5 : Nat) (Option.some (Jvm.ClassFile.FieldType.object "java/lang/String"))).before args0 about1 = true := code_word (m := ⟨1, 4⟩) (meth := k1m4) (c := k1c4) (by decide +kernel) rfl rfl rfl (by decide +kernel)
set_option maxRecDepth 65536 in
theorem w_c3 : (Jvm.Cond.code ({ cls := "java/lang/String", name := "<init>", desc := "([C)V" } : Jvm.MethodName) jdk_42_method_3_code (2 : Nat) (Option.none : Option Jvm.ClassFile.FieldType)).before args0 about1 = true := code_word (m := ⟨7, 1⟩) (meth := k7m1) (c := k7c1) (by decide +kernel) rfl rfl rfl (by decide +kernel)
set_option maxRecDepth 65536 in
theorem w_c4 : (Jvm.Cond.code ({ cls := "java/lang/String", name := "<init>", desc := "([CIILjava/lang/Void;)V" } : Jvm.MethodName) jdk_42_method_149_code (6 : Nat) (Option.none : Option Jvm.ClassFile.FieldType)).before args0 about1 = true := code_word (m := ⟨7, 5⟩) (meth := k7m5) (c := k7c5) (by decide +kernel) rfl rfl rfl (by decide +kernel)
set_option maxRecDepth 65536 in
theorem w_c5 : (Jvm.Cond.code ({ cls := "java/lang/Object", name := "<init>", desc := "()V" } : Jvm.MethodName) object_method_1_code (1 : Nat) (Option.none : Option Jvm.ClassFile.FieldType)).before args0 about1 = true := code_word (m := ⟨0, 0⟩) (meth := k0m0) (c := k0c0) (by decide +kernel) rfl rfl rfl (by decide +kernel)
set_option maxRecDepth 65536 in
theorem w_c6 : (Jvm.Cond.code ({ cls := "com/example/redelivery/redelivery/RedeliveryHeaders", name := "isSendable", desc := "(Ljava/lang/String;)Z" } : Jvm.MethodName) prog_15_method_3_code (3 : Nat) (Option.some Jvm.ClassFile.FieldType.boolean)).before args0 about1 = true := code_word (m := ⟨8, 1⟩) (meth := k8m1) (c := k8c1) (by decide +kernel) rfl rfl rfl (by decide +kernel)
set_option maxRecDepth 65536 in
theorem w_c7 : (Jvm.Cond.code ({ cls := "java/lang/String", name := "isEmpty", desc := "()Z" } : Jvm.MethodName) jdk_42_method_55_code (1 : Nat) (Option.some Jvm.ClassFile.FieldType.boolean)).before args0 about1 = true := code_word (m := ⟨7, 3⟩) (meth := k7m3) (c := k7c3) (by decide +kernel) rfl rfl rfl (by decide +kernel)
set_option maxRecDepth 65536 in
theorem w_c8 : (Jvm.Cond.code ({ cls := "java/lang/StringUTF16", name := "compress", desc := "([CII)[B" } : Jvm.MethodName) jdk_52_method_16_code (6 : Nat) (Option.some (Jvm.ClassFile.FieldType.array Jvm.ClassFile.FieldType.byte))).before args0 about1 = true := code_word (m := ⟨9, 8⟩) (meth := k9m8) (c := k9c8) (by decide +kernel) rfl rfl rfl (by decide +kernel)
set_option maxRecDepth 65536 in
theorem w_c9 : (Jvm.Cond.code ({ cls := "java/lang/StringUTF16", name := "compress", desc := "([CI[BII)I" } : Jvm.MethodName) jdk_52_method_21_code (7 : Nat) (Option.some Jvm.ClassFile.FieldType.int)).before args0 about1 = true := code_word (m := ⟨9, 9⟩) (meth := k9m9) (c := k9c9) (by decide +kernel) rfl rfl rfl (by decide +kernel)
set_option maxRecDepth 65536 in
theorem w_c10 : (Jvm.Cond.code ({ cls := "java/lang/StringUTF16", name := "coderFromArrayLen", desc := "([BI)B" } : Jvm.MethodName) jdk_52_method_15_code (2 : Nat) (Option.some Jvm.ClassFile.FieldType.byte)).before args0 about1 = true := code_word (m := ⟨9, 7⟩) (meth := k9m7) (c := k9c7) (by decide +kernel) rfl rfl rfl (by decide +kernel)
set_option maxRecDepth 65536 in
theorem w_c11 : (Jvm.Cond.code ({ cls := "com/example/redelivery/redelivery/RedeliveryHeadersIsSendablePinLaw", name := "ok", desc := "(C)Z" } : Jvm.MethodName) method_4_code (1 : Nat) (Option.some Jvm.ClassFile.FieldType.boolean)).before args0 about1 = true := code_word (m := ⟨1, 3⟩) (meth := k1m3) (c := k1c3) (by decide +kernel) rfl rfl rfl (by decide +kernel)
set_option maxRecDepth 65536 in
theorem w_c12 : (Jvm.Cond.code ({ cls := "java/lang/String", name := "charAt", desc := "(I)C" } : Jvm.MethodName) jdk_42_method_56_code (2 : Nat) (Option.some Jvm.ClassFile.FieldType.char)).before args0 about1 = true := code_word (m := ⟨7, 4⟩) (meth := k7m4) (c := k7c4) (by decide +kernel) rfl rfl rfl (by decide +kernel)
set_option maxRecDepth 65536 in
theorem w_c13 : (Jvm.Cond.code ({ cls := "java/lang/String", name := "isLatin1", desc := "()Z" } : Jvm.MethodName) jdk_42_method_154_code (1 : Nat) (Option.some Jvm.ClassFile.FieldType.boolean)).before args0 about1 = true := code_word (m := ⟨7, 7⟩) (meth := k7m7) (c := k7c7) (by decide +kernel) rfl rfl rfl (by decide +kernel)
set_option maxRecDepth 65536 in
theorem w_c14 : (Jvm.Cond.code ({ cls := "java/lang/StringLatin1", name := "charAt", desc := "([BI)C" } : Jvm.MethodName) jdk_43_method_2_code (2 : Nat) (Option.some Jvm.ClassFile.FieldType.char)).before args0 about1 = true := code_word (m := ⟨10, 1⟩) (meth := k10m1) (c := k10c1) (by decide +kernel) rfl rfl rfl (by decide +kernel)
set_option maxRecDepth 65536 in
theorem w_c15 : (Jvm.Cond.code ({ cls := "java/lang/String", name := "checkIndex", desc := "(II)V" } : Jvm.MethodName) jdk_42_method_155_code (2 : Nat) (Option.none : Option Jvm.ClassFile.FieldType)).before args0 about1 = true := code_word (m := ⟨7, 8⟩) (meth := k7m8) (c := k7c8) (by decide +kernel) rfl rfl rfl (by decide +kernel)
set_option maxRecDepth 65536 in
theorem w_c16 : (Jvm.Cond.code ({ cls := "jdk/internal/util/Preconditions", name := "checkIndex", desc := "(IILjava/util/function/BiFunction;)I" } : Jvm.MethodName) jdk_41_method_11_code (3 : Nat) (Option.some Jvm.ClassFile.FieldType.int)).before args0 about1 = true := code_word (m := ⟨11, 1⟩) (meth := k11m1) (c := k11c1) (by decide +kernel) rfl rfl rfl (by decide +kernel)
set_option maxRecDepth 65536 in
theorem w_c17 : (Jvm.Cond.code ({ cls := "java/lang/String", name := "length", desc := "()I" } : Jvm.MethodName) jdk_42_method_54_code (1 : Nat) (Option.some Jvm.ClassFile.FieldType.int)).before args0 about1 = true := code_word (m := ⟨7, 2⟩) (meth := k7m2) (c := k7c2) (by decide +kernel) rfl rfl rfl (by decide +kernel)
set_option maxRecDepth 65536 in
theorem w_c18 : (Jvm.Cond.code ({ cls := "java/lang/String", name := "coder", desc := "()B" } : Jvm.MethodName) jdk_42_method_152_code (1 : Nat) (Option.some Jvm.ClassFile.FieldType.byte)).before args0 about1 = true := code_word (m := ⟨7, 6⟩) (meth := k7m6) (c := k7c6) (by decide +kernel) rfl rfl rfl (by decide +kernel)
set_option maxRecDepth 65536 in
theorem w_c19 : (Jvm.Cond.code ({ cls := "java/lang/StringUTF16", name := "toBytes", desc := "([CII)[B" } : Jvm.MethodName) jdk_52_method_14_code (5 : Nat) (Option.some (Jvm.ClassFile.FieldType.array Jvm.ClassFile.FieldType.byte))).before args0 about1 = true := code_word (m := ⟨9, 6⟩) (meth := k9m6) (c := k9c6) (by decide +kernel) rfl rfl rfl (by decide +kernel)
set_option maxRecDepth 65536 in
theorem w_c20 : (Jvm.Cond.code ({ cls := "java/lang/StringUTF16", name := "newBytesFor", desc := "(I)[B" } : Jvm.MethodName) jdk_52_method_2_code (1 : Nat) (Option.some (Jvm.ClassFile.FieldType.array Jvm.ClassFile.FieldType.byte))).before args0 about1 = true := code_word (m := ⟨9, 1⟩) (meth := k9m1) (c := k9c1) (by decide +kernel) rfl rfl rfl (by decide +kernel)
set_option maxRecDepth 65536 in
theorem w_c21 : (Jvm.Cond.code ({ cls := "java/lang/StringUTF16", name := "newBytesLength", desc := "(I)I" } : Jvm.MethodName) jdk_52_method_3_code (1 : Nat) (Option.some Jvm.ClassFile.FieldType.int)).before args0 about1 = true := code_word (m := ⟨9, 2⟩) (meth := k9m2) (c := k9c2) (by decide +kernel) rfl rfl rfl (by decide +kernel)
set_option maxRecDepth 65536 in
theorem w_c22 : (Jvm.Cond.code ({ cls := "java/lang/StringUTF16", name := "putChar", desc := "([BII)V" } : Jvm.MethodName) jdk_52_method_4_code (3 : Nat) (Option.none : Option Jvm.ClassFile.FieldType)).before args0 about1 = true := code_word (m := ⟨9, 3⟩) (meth := k9m3) (c := k9c3) (by decide +kernel) rfl rfl rfl (by decide +kernel)
set_option maxRecDepth 65536 in
theorem w_c23 : (Jvm.Cond.code ({ cls := "java/lang/StringUTF16", name := "getChar", desc := "([BI)C" } : Jvm.MethodName) jdk_52_method_5_code (2 : Nat) (Option.some Jvm.ClassFile.FieldType.char)).before args0 about1 = true := code_word (m := ⟨9, 4⟩) (meth := k9m4) (c := k9c4) (by decide +kernel) rfl rfl rfl (by decide +kernel)
set_option maxRecDepth 65536 in
theorem w_c24 : (Jvm.Cond.code ({ cls := "java/lang/StringUTF16", name := "charAt", desc := "([BI)C" } : Jvm.MethodName) jdk_52_method_83_code (2 : Nat) (Option.some Jvm.ClassFile.FieldType.char)).before args0 about1 = true := code_word (m := ⟨9, 10⟩) (meth := k9m10) (c := k9c10) (by decide +kernel) rfl rfl rfl (by decide +kernel)
set_option maxRecDepth 65536 in
theorem w_c25 : (Jvm.Cond.code ({ cls := "java/lang/StringUTF16", name := "checkIndex", desc := "(I[B)V" } : Jvm.MethodName) jdk_52_method_91_code (2 : Nat) (Option.none : Option Jvm.ClassFile.FieldType)).before args0 about1 = true := code_word (m := ⟨9, 11⟩) (meth := k9m11) (c := k9c11) (by decide +kernel) rfl rfl rfl (by decide +kernel)
set_option maxRecDepth 65536 in
theorem w_c26 : (Jvm.Cond.code ({ cls := "java/lang/StringUTF16", name := "length", desc := "([B)I" } : Jvm.MethodName) jdk_52_method_6_code (1 : Nat) (Option.some Jvm.ClassFile.FieldType.int)).before args0 about1 = true := code_word (m := ⟨9, 5⟩) (meth := k9m5) (c := k9c5) (by decide +kernel) rfl rfl rfl (by decide +kernel)
def codes1 : List Jvm.Cond := [Jvm.Cond.code x code maxLocals ret, Jvm.Cond.code ({ cls := "com/example/redelivery/redelivery/RedeliveryHeadersIsSendablePinLaw", name := "draw", desc := "(I)C" } : Jvm.MethodName) method_3_code (1 : Nat) (Option.some Jvm.ClassFile.FieldType.char), Jvm.Cond.code ({ cls := "com/example/redelivery/redelivery/RedeliveryHeadersIsSendablePinLaw", name := "make", desc := "(ICCCC)Ljava/lang/String;" } : Jvm.MethodName) method_5_code (5 : Nat) (Option.some (Jvm.ClassFile.FieldType.object "java/lang/String")), Jvm.Cond.code ({ cls := "java/lang/String", name := "<init>", desc := "([C)V" } : Jvm.MethodName) jdk_42_method_3_code (2 : Nat) (Option.none : Option Jvm.ClassFile.FieldType), Jvm.Cond.code ({ cls := "java/lang/String", name := "<init>", desc := "([CIILjava/lang/Void;)V" } : Jvm.MethodName) jdk_42_method_149_code (6 : Nat) (Option.none : Option Jvm.ClassFile.FieldType), Jvm.Cond.code ({ cls := "java/lang/Object", name := "<init>", desc := "()V" } : Jvm.MethodName) object_method_1_code (1 : Nat) (Option.none : Option Jvm.ClassFile.FieldType), Jvm.Cond.code ({ cls := "com/example/redelivery/redelivery/RedeliveryHeaders", name := "isSendable", desc := "(Ljava/lang/String;)Z" } : Jvm.MethodName) prog_15_method_3_code (3 : Nat) (Option.some Jvm.ClassFile.FieldType.boolean), Jvm.Cond.code ({ cls := "java/lang/String", name := "isEmpty", desc := "()Z" } : Jvm.MethodName) jdk_42_method_55_code (1 : Nat) (Option.some Jvm.ClassFile.FieldType.boolean), Jvm.Cond.code ({ cls := "java/lang/StringUTF16", name := "compress", desc := "([CII)[B" } : Jvm.MethodName) jdk_52_method_16_code (6 : Nat) (Option.some (Jvm.ClassFile.FieldType.array Jvm.ClassFile.FieldType.byte)), Jvm.Cond.code ({ cls := "java/lang/StringUTF16", name := "compress", desc := "([CI[BII)I" } : Jvm.MethodName) jdk_52_method_21_code (7 : Nat) (Option.some Jvm.ClassFile.FieldType.int), Jvm.Cond.code ({ cls := "java/lang/StringUTF16", name := "coderFromArrayLen", desc := "([BI)B" } : Jvm.MethodName) jdk_52_method_15_code (2 : Nat) (Option.some Jvm.ClassFile.FieldType.byte), Jvm.Cond.code ({ cls := "com/example/redelivery/redelivery/RedeliveryHeadersIsSendablePinLaw", name := "ok", desc := "(C)Z" } : Jvm.MethodName) method_4_code (1 : Nat) (Option.some Jvm.ClassFile.FieldType.boolean), Jvm.Cond.code ({ cls := "java/lang/String", name := "charAt", desc := "(I)C" } : Jvm.MethodName) jdk_42_method_56_code (2 : Nat) (Option.some Jvm.ClassFile.FieldType.char), Jvm.Cond.code ({ cls := "java/lang/String", name := "isLatin1", desc := "()Z" } : Jvm.MethodName) jdk_42_method_154_code (1 : Nat) (Option.some Jvm.ClassFile.FieldType.boolean), Jvm.Cond.code ({ cls := "java/lang/StringLatin1", name := "charAt", desc := "([BI)C" } : Jvm.MethodName) jdk_43_method_2_code (2 : Nat) (Option.some Jvm.ClassFile.FieldType.char), Jvm.Cond.code ({ cls := "java/lang/String", name := "checkIndex", desc := "(II)V" } : Jvm.MethodName) jdk_42_method_155_code (2 : Nat) (Option.none : Option Jvm.ClassFile.FieldType), Jvm.Cond.code ({ cls := "jdk/internal/util/Preconditions", name := "checkIndex", desc := "(IILjava/util/function/BiFunction;)I" } : Jvm.MethodName) jdk_41_method_11_code (3 : Nat) (Option.some Jvm.ClassFile.FieldType.int), Jvm.Cond.code ({ cls := "java/lang/String", name := "length", desc := "()I" } : Jvm.MethodName) jdk_42_method_54_code (1 : Nat) (Option.some Jvm.ClassFile.FieldType.int), Jvm.Cond.code ({ cls := "java/lang/String", name := "coder", desc := "()B" } : Jvm.MethodName) jdk_42_method_152_code (1 : Nat) (Option.some Jvm.ClassFile.FieldType.byte), Jvm.Cond.code ({ cls := "java/lang/StringUTF16", name := "toBytes", desc := "([CII)[B" } : Jvm.MethodName) jdk_52_method_14_code (5 : Nat) (Option.some (Jvm.ClassFile.FieldType.array Jvm.ClassFile.FieldType.byte)), Jvm.Cond.code ({ cls := "java/lang/StringUTF16", name := "newBytesFor", desc := "(I)[B" } : Jvm.MethodName) jdk_52_method_2_code (1 : Nat) (Option.some (Jvm.ClassFile.FieldType.array Jvm.ClassFile.FieldType.byte)), Jvm.Cond.code ({ cls := "java/lang/StringUTF16", name := "newBytesLength", desc := "(I)I" } : Jvm.MethodName) jdk_52_method_3_code (1 : Nat) (Option.some Jvm.ClassFile.FieldType.int), Jvm.Cond.code ({ cls := "java/lang/StringUTF16", name := "putChar", desc := "([BII)V" } : Jvm.MethodName) jdk_52_method_4_code (3 : Nat) (Option.none : Option Jvm.ClassFile.FieldType), Jvm.Cond.code ({ cls := "java/lang/StringUTF16", name := "getChar", desc := "([BI)C" } : Jvm.MethodName) jdk_52_method_5_code (2 : Nat) (Option.some Jvm.ClassFile.FieldType.char), Jvm.Cond.code ({ cls := "java/lang/StringUTF16", name := "charAt", desc := "([BI)C" } : Jvm.MethodName) jdk_52_method_83_code (2 : Nat) (Option.some Jvm.ClassFile.FieldType.char), Jvm.Cond.code ({ cls := "java/lang/StringUTF16", name := "checkIndex", desc := "(I[B)V" } : Jvm.MethodName) jdk_52_method_91_code (2 : Nat) (Option.none : Option Jvm.ClassFile.FieldType), Jvm.Cond.code ({ cls := "java/lang/StringUTF16", name := "length", desc := "([B)I" } : Jvm.MethodName) jdk_52_method_6_code (1 : Nat) (Option.some Jvm.ClassFile.FieldType.int)]
set_option maxRecDepth 65536 in
theorem codes_eq : words1.filter isCode = codes1 := rfl
theorem w_codes : ∀ c ∈ words1.filter isCode, c.before args0 about1 = true := by
  rw [codes_eq]
  intro c hc
  simp only [codes1, List.mem_cons, List.not_mem_nil, or_false] at hc
  rcases hc with rfl | rfl | rfl | rfl | rfl | rfl | rfl | rfl | rfl | rfl | rfl | rfl | rfl | rfl | rfl | rfl | rfl | rfl | rfl | rfl | rfl | rfl | rfl | rfl | rfl | rfl | rfl
  · exact w_c0
  · exact w_c1
  · exact w_c2
  · exact w_c3
  · exact w_c4
  · exact w_c5
  · exact w_c6
  · exact w_c7
  · exact w_c8
  · exact w_c9
  · exact w_c10
  · exact w_c11
  · exact w_c12
  · exact w_c13
  · exact w_c14
  · exact w_c15
  · exact w_c16
  · exact w_c17
  · exact w_c18
  · exact w_c19
  · exact w_c20
  · exact w_c21
  · exact w_c22
  · exact w_c23
  · exact w_c24
  · exact w_c25
  · exact w_c26
set_option maxRecDepth 65536 in
theorem w_t1 : (words1.take 24).all (fun c => isCode c || c.before args0 about1) = true := by decide +kernel
set_option maxRecDepth 65536 in
theorem w_t2 : ((words1.drop 24).take 24).all (fun c => isCode c || c.before args0 about1) = true := by decide +kernel
set_option maxRecDepth 65536 in
theorem w_t3 : (((words1.drop 24).drop 24).take 24).all (fun c => isCode c || c.before args0 about1) = true := by decide +kernel
set_option maxRecDepth 65536 in
theorem w_t4 : ((((words1.drop 24).drop 24).drop 24).take 24).all (fun c => isCode c || c.before args0 about1) = true := by decide +kernel
set_option maxRecDepth 65536 in
theorem w_t5 : ((((words1.drop 24).drop 24).drop 24).drop 24).all (fun c => isCode c || c.before args0 about1) = true := by decide +kernel
theorem w_tables : (allAtoms (Jvm.Cond.code x code maxLocals ret :: tables_1)).before args0 about1 = true := by
  rw [allAtoms_all]
  show words1.all (fun c => c.before args0 about1) = true
  refine all_split ?_ w_codes
  rw [← List.take_append_drop 24 words1, List.all_append, w_t1, ← List.take_append_drop 24 (words1.drop 24), List.all_append, w_t2, ← List.take_append_drop 24 ((words1.drop 24).drop 24), List.all_append, w_t3, ← List.take_append_drop 24 (((words1.drop 24).drop 24).drop 24), List.all_append, w_t4, w_t5]
  rfl
set_option maxRecDepth 65536 in
theorem w_rest : rest_1_c.before args0 about1 = true := by decide +kernel
set_option maxRecDepth 65536 in
theorem w_case : (Jvm.Cond.and given_1 narrow_1).before args0 about1 = true := by decide +kernel
set_option maxRecDepth 65536 in
theorem w_consts : constsHeld consts_1 about1 := Jvm.Lit.constsHeldB_iff.mp (by decide +kernel)
theorem w_applies : (headSpec (Jvm.Cond.code x code maxLocals ret :: tables_1) room_1).applies x e0.platform about1 = true :=
  (Spec.applies_iff w_frames).mpr ⟨w_running, w_runnable, w_alone, w_named, w_hears, w_ripe, w_room, w_tables⟩
theorem atStart : AtStart classFile x code maxLocals ret World_1 tables_1 room_1 Calls_1 rest_1 Pre_1 launch0 p0 e0 about1 theMethod args0 below0 :=
  ⟨lists_1, trivial, launch0.admits_env _ _ _, launch0.least_env, fairChoices_fair.cas, fairChoices_fair.clock, w_frames, w_args, w_heap, w_applies, ⟨w_consts, trivial⟩, w_rest, w_case⟩
end start1
theorem witness_1 : WitnessClaimed_1 := ⟨start1.p0, start1.e0, start1.about1, start1.theMethod, start1.args0, start1.below0, start1.atStart⟩
end Jvm.Pilot.@@N@@
